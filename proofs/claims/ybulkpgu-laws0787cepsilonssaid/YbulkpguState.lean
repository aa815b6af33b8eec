/-
  zzs0787cstate; starLoops.
-/
import Derived.Test.YbulkpguAt
namespace Go.Proofs.Ybulkpgu
open Go.Fw Go.RowKit
attribute [local simp] Go.Fw.stl_size Go.Fw.sto_size

def Fr3 (h h' : Hn) (t : Nat) : Prop := ∀ n : Nat × Nat, n.1 ≠ t → n.1 ≠ t + 1 → n.1 ≠ t + 2 → n.1 ≠ 99 → h' n = h n
theorem Fr3.refl (h : Hn) (t : Nat) : Fr3 h h t := fun _ _ _ _ _ => rfl
theorem Fr3.trans {h h' h'' : Hn} {t : Nat} (a : Fr3 h h' t) (b : Fr3 h' h'' t) : Fr3 h h'' t := fun n h1 h2 h3 h4 => (b n h1 h2 h3 h4).trans (a n h1 h2 h3 h4)
theorem Fr3.hup {h h' : Hn} {t : Nat} (a : Fr3 h h' t) {k : Nat × Nat} (hk : k.1 = t ∨ k.1 = t + 1 ∨ k.1 = t + 2 ∨ k.1 = 99) (x : Option (Nat × Obj)) : Fr3 h (Go.Fw.hup h' k x) t := fun n h1 h2 h3 h4 => by
  rw [hup_ne (fun e => by subst e; omega)]
  exact a n h1 h2 h3 h4
theorem Fr.to3 {h h' : Hn} {t : Nat} (a : Fr h h' t) : Fr3 h h' t := fun n h1 h2 _ h4 => a n h1 h2 h4

theorem Ls.edge {h : Hn} {t vb i : Nat} {sts : List Sv} {ov : Value} {rows : List Value} {s : Sv} (hl : Ls h t vb sts ov rows) (hi : sts[i]? = some s) (hs : s.star = false) (x : Option (Nat × Obj)) : Ls (hup h (t + 2, i) x) t vb sts ov rows := by
  refine ⟨?_, hl.out.hup (by simp), fun k rv hk => (hl.row k rv hk).hup (by simp), ?_, hl.big⟩
  · rw [hup_ne (by simp)]; exact hl.var
  · intro q s2 hq
    by_cases hqi : q = i
    · subst hqi
      rw [hi] at hq
      cases hq
      rcases hl.edg q s hi with h1 | h1
      · exact .inl h1
      · rw [hs] at h1; cases h1.1
    · rw [hup_ne (by simp; exact hqi)]
      exact hl.edg q s2 hq

def stOf (star : Bool) (ed : Value) : Sv := ⟨star, ed, .slice none 0 0, 0, 0⟩

set_option maxRecDepth 100000
theorem state_calls {w0 w : World} {h : Hn} {t vb : Nat} {sts : List Sv} (ht : t + 2 < 99) (star : Bool) (hp : Hp w0 w h) (hle : LsE h t vb sts) (hlen : sts.length ≤ 900000)
    (R : Ending → World → Prop) (hR : ∀ w' h' ed, Hp w0 w' h' → LsE h' t vb (sts ++ [stOf star ed]) → Fr3 h h' t → R (.returned (.int .i32 (sts.length : Int))) w') :
    Calls Yba.prog 17 #[.pointer (some ⟨vb, 0, none⟩), .bool star] w R := by
  refine calls (args := [_, _]) (m := 2) Yba.func17 rfl rfl rfl (by decide) ?_
  refine J.seq ?_
  refine J.region ?_    -- region 0
  refine JL.val (Run.assign rfl) ?_    -- s4 := assign c:0:i32
  refine JL.to (fun _ _ h => h) ?_
  refine J.seq ?_
  refine J.region ?_    -- region 1
  refine JL.val (Run.move rfl) ?_    -- s6 := move t0
  refine JL.val (Run.build rfl build48) ?_    -- s7 := build 48 []
  refine JL.call rfl Yba.func16 rfl rfl ?_    -- s8 := CALL f16(t6, t7) [50,48]
  refine add_calls ht hp hle hlen _ ?_
  intro w1 h1 hp1 hle1 hf1
  refine ⟨_, rfl, ?_⟩
  refine JL.val (Run.assign rfl) ?_    -- s5 := assign t8
  refine JL.to (fun _ _ h => h) ?_
  have hi : (sts ++ [sv0])[sts.length]? = some sv0 := by simp
  refine J.seq ?_
  refine J.seq ?_
  refine J.region ?_    -- region 2
  refine JL.val (Run.move rfl) ?_    -- s9 := move t1
  refine JL.to (fun _ _ h => h) ?_
  refine J.cond rfl (fun hc => ?_) (fun hc => ?_)    -- if t9
  · subst hc
    refine J.region ?_    -- region 3
    refine JL.val (Run.move rfl) ?_    -- s10 := move t0
    refine JL.val (Run.move rfl) ?_    -- s11 := move t5
    refine JL.call rfl Yba.func18 rfl rfl ?_    -- s12 := CALL f18(t10, t11) [50,21]
    refine at_calls hp1 hle1 hi _ ?_
    intro rb cur hat
    refine ⟨_, rfl, ?_⟩
    obtain ⟨ov, rows, hl1, hrn⟩ := hle1
    have hp2 := hp1.new (t + 2, sts.length) (cellsO [.int .u8 0, .int .u8 255, .int .i32 (sts.length : Int)] 77)
    have hl2 := hl1.edge hi rfl (some (w1.heap.size, cellsO [.int .u8 0, .int .u8 255, .int .i32 (sts.length : Int)] 77))
    have hat2 : At (hup h1 (t + 2, sts.length) (some (w1.heap.size, cellsO [.int .u8 0, .int .u8 255, .int .i32 (sts.length : Int)] 77))) t sts.length sv0 rb cur := hat.keep (hup_ne (by simp))
    have hll : (sts ++ [sv0]).length = sts.length + 1 := by simp
    have hset := hl2.set (j := 0) (u := .slice (some ⟨w1.heap.size, 0, none⟩) 1 1) (s' := stOf true (.slice (some ⟨w1.heap.size, 0, none⟩) 1 1)) hp2 (by omega) hi hat2 (by omega) rfl (.inr ⟨rfl, _, rfl, hup_same⟩)
    obtain ⟨hlt, hp3, hl3, _⟩ := hset
    have hf3 := (hf1.to3.hup (k := (t + 2, sts.length)) (.inr (.inr (.inl rfl))) (some (w1.heap.size, cellsO [.int .u8 0, .int .u8 255, .int .i32 (sts.length : Int)] 77))).hup (k := (t + 1, sts.length / 16384)) (.inr (.inl rfl)) (some (rb, cellsO (cur.set (sts.length % 16384 * 5 + 0) (.slice (some ⟨w1.heap.size, 0, none⟩) 1 1)) 48))
    refine JL.val (Run.move rfl) ?_    -- s13 := move t5
    refine JL.val (Run.build rfl build77) ?_    -- s14 := build 77 [..]
    refine JL.val (Run.buildSlice rfl lit46) ?_    -- s15 := buildSlice 46 1 [(0,(Operand.tmp 14))]
    refine JL.val (Run.nil rfl) ?_    -- s16 := nilCheck t12
    refine JL.val (Run.field fl48_0 rfl) ?_    -- s17 := field 48 t16 .0
    refine JL.eff (Run.store c46 rfl rfl rfl (hp2.blk hat2.blk) hlt) ?_    -- sNone := store 46 [t17] := t15
    refine JL.to (fun _ _ h => h) ?_
    refine J.seq ?_
    refine J.region ?_    -- region 4
    refine JL.val (Run.move rfl) ?_    -- s18 := move t5
    refine JL.val (Run.assign rfl) ?_    -- s4 := assign t18
    refine JL.to (fun _ _ h => h) ?_
    refine J.ret1 Yba.f17 R (fun _ _ h => h) rfl rfl ?_
    refine hR _ _ (.slice (some ⟨w1.heap.size, 0, none⟩) 1 1) hp3 ⟨ov, rows, ?_, by simpa using hrn⟩ hf3
    have e : (sts ++ [sv0]).set sts.length (stOf true (.slice (some ⟨w1.heap.size, 0, none⟩) 1 1)) = sts ++ [stOf true (.slice (some ⟨w1.heap.size, 0, none⟩) 1 1)] := by
      rw [List.set_append_right _ _ (Nat.le_refl _)]
      simp
    rw [← e]
    exact hl3
  · subst hc
    refine J.skipTo (fun _ _ h => h) ?_
    refine J.seq ?_
    refine J.region ?_    -- region 4
    refine JL.val (Run.move rfl) ?_    -- s18 := move t5
    refine JL.val (Run.assign rfl) ?_    -- s4 := assign t18
    refine JL.to (fun _ _ h => h) ?_
    refine J.ret1 Yba.f17 R (fun _ _ h => h) rfl rfl ?_
    exact hR _ _ (.slice none 0 0) hp1 hle1 hf1.to3

theorem loops_calls {w0 w : World} {h : Hn} {t vb i : Nat} {sts : List Sv} {s : Sv} (hp : Hp w0 w h) (hle : LsE h t vb sts) (hi : sts[i]? = some s)
    (R : Ending → World → Prop) (hR : ∀ w', Hp w0 w' h → R (.returned (.int .i64 (if s.star then 1 else 0))) w') :
    Calls Yba.prog 45 #[.pointer (some ⟨vb, 0, none⟩), .int .i32 (i : Int)] w R := by
  refine calls (args := [_, _]) (m := 2) Yba.func45 rfl rfl rfl (by decide) ?_
  refine J.seq ?_
  refine J.region ?_    -- region 0
  refine JL.val (Run.assign rfl) ?_    -- s4 := assign c:0:i64
  refine JL.to (fun _ _ h => h) ?_
  refine J.seq ?_
  refine J.region ?_    -- region 1
  refine JL.val (Run.assign rfl) ?_    -- s5 := assign c:0:i64
  refine JL.val (Run.assign rfl) ?_    -- s6 := assign c:0:i64
  refine JL.to (fun _ _ h => h) ?_
  refine J.seq ?_
  refine J.seq ?_
  refine J.region ?_    -- region 2
  refine JL.val (Run.move rfl) ?_    -- s9 := move t0
  refine JL.val (Run.nil rfl) ?_    -- s10 := nilCheck t9
  refine JL.val (Run.field fl44_0 rfl) ?_    -- s11 := field 44 t10 .0
  refine JL.val (Run.move rfl) ?_    -- s12 := move t1
  refine JL.call rfl Yba.func18 rfl rfl ?_    -- s13 := CALL f18(t11, t12) [42,21]
  refine at_calls hp hle hi _ ?_
  intro rb cur hat
  refine ⟨_, rfl, ?_⟩
  obtain ⟨ov, rows, hl, hrn⟩ := hle
  have hed : w.cell? ⟨rb, i % 16384 * 5, none⟩ = some s.ed := hp.cell hat.blk (hat.get 0 s.ed rfl)
  -- the edges: none, or the one loop
  have hcase : ∃ (k : Nat) (a : Option Addr), s.ed = .slice a k k ∧ (k = if s.star then 1 else 0) ∧ (k = 1 → ∃ eb, a = some ⟨eb, 0, none⟩ ∧ h (t + 2, i) = some (eb, cellsO [.int .u8 0, .int .u8 255, .int .i32 (i : Int)] 77)) := by
    rcases hl.edg i s hi with ⟨h1, h2⟩ | ⟨h1, eb, h2, h3⟩
    · exact ⟨0, none, h2, by rw [h1]; rfl, fun e => by cases e⟩
    · exact ⟨1, some ⟨eb, 0, none⟩, h2, by rw [h1]; rfl, fun _ => ⟨eb, rfl, h3⟩⟩
  obtain ⟨k, ea, hsed, hks, hloop⟩ := hcase
  rw [hsed] at hed
  have hk1 : k ≤ 1 := by rw [hks]; split <;> omega
  refine JL.val (Run.nil rfl) ?_    -- s14 := nilCheck t13
  refine JL.val (Run.field fl48_0 rfl) ?_    -- s15 := field 48 t14 .0
  refine JL.val (Run.load t46 rfl (by rw [Nat.add_zero]; exact hed)) ?_    -- s16 := load 46 [t15]
  refine JL.val (Run.len Yba.underlying46 rfl) ?_    -- s17 := builtin Builtin.len(t16) [46]
  refine JL.val (Run.move rfl) ?_    -- s18 := move c:0:i64
  refine JL.to (fun _ _ h => h) ?_
  refine J.block ?_    -- block 0
  refine J.loop (ι := Nat) (fun q => [(1, .int .i32 (i : Int)), (5, .int .i64 (q : Int)), (6, .int .i64 ((q * 256 : Nat) : Int)), (16, .slice ea k k), (17, .int .i64 (k : Int)), (18, .int .i64 (q : Int))])
    (fun q w' => q ≤ k ∧ Hp w0 w' h) (fun q => k - q) 0 ⟨rfl, rfl, rfl, rfl, rfl, rfl, trivial⟩ ⟨by omega, hp⟩ ?_
  clear hp hed
  rintro q w1 ⟨hq, hp⟩
  refine J.seq ?_
  refine J.region ?_    -- region 3
  refine JL.val (Run.lss rfl rfl) ?_    -- s19 := lss t18 t17
  refine JL.to (fun _ _ h => h) ?_
  refine J.seq ?_
  refine J.cond rfl (fun hc => ?_) (fun hc => ?_)    -- if t19
  · have hqk : q < k := by have := of_decide_eq_true hc; omega
    have hq0 : q = 0 := by omega
    subst hq0
    obtain ⟨eb, rfl, heb⟩ := hloop (by omega)
    refine J.skipTo (fun _ _ h => h) ?_
    refine J.seq ?_
    refine J.block ?_    -- block 1
    refine J.seq ?_
    refine J.region ?_    -- region 4
    refine JL.val (Run.index Yba.underlying46 c77 (by decide) rfl rfl hqk) ?_    -- s20 := index 46 t16 [t18]
    refine JL.val (Run.loadA (cs := [.int .u8 0, .int .u8 255, .int .i32 (i : Int)]) ta77 rfl (fun j u hj => by rw [Nat.zero_mul, Nat.zero_add]; exact hp.cell heb hj)) ?_    -- s21 := load 77 [t20]
    refine JL.val (Run.alloc (l := [.int .u8 0, .int .u8 0, .int .i32 0]) z77 rfl) ?_    -- s8 := alloc 77
    refine JL.eff (Run.storeNew (cs := [.int .u8 0, .int .u8 255, .int .i32 (i : Int)]) c77 (by simp) rfl rfl (by simp [Value.oneCell']) rfl) ?_    -- sNone := store 77 [t8] := t21
    refine JL.to (fun _ _ h => h) ?_
    have hnew : Blk (w1.alloc (.cells [.int .u8 0, .int .u8 255, .int .i32 (i : Int)].toArray 77)) w1.heap.size 77 [.int .u8 0, .int .u8 255, .int .i32 (i : Int)] := Blk.new _ _ _
    have hp2 := hp.alloc (.cells [.int .u8 0, .int .u8 255, .int .i32 (i : Int)].toArray 77)
    generalize w1.alloc (.cells [.int .u8 0, .int .u8 255, .int .i32 (i : Int)].toArray 77) = w2 at *
    refine J.seq ?_
    refine J.region ?_    -- region 5
    refine JL.val (Run.field fl77_2 rfl) ?_    -- s22 := field 77 t8 .2
    refine JL.val (Run.load t21 rfl (hnew.cell rfl)) ?_    -- s23 := load 21 [t22]
    refine JL.val (Run.move rfl) ?_    -- s24 := move t1
    refine JL.val (Run.eql rfl rfl) ?_    -- s25 := eql t23 t24
    refine JL.to (fun _ _ h => h) ?_
    refine J.condT rfl (by simp) ?_    -- if t25
    refine J.seq ?_
    refine J.region ?_    -- region 6
    refine JL.val (Run.move rfl) ?_    -- s26 := move t5
    refine JL.val (Run.add (c := ((1 : Nat) : Int)) rfl rfl (by omega) (by omega) (by omega)) ?_    -- s27 := add t26 c:1:i64
    refine JL.val (Run.assign rfl) ?_    -- s5 := assign t27
    refine JL.to (fun _ _ h => h) ?_
    refine J.region ?_    -- region 7
    refine JL.val (Run.move rfl) ?_    -- s28 := move t6
    refine JL.val (Run.field fl77_1 rfl) ?_    -- s29 := field 77 t8 .1
    refine JL.val (Run.load t5 rfl (hnew.cell rfl)) ?_    -- s30 := load 5 [t29]
    refine JL.val (Run.field fl77_0 rfl) ?_    -- s31 := field 77 t8 .0
    refine JL.val (Run.load t5 rfl (hnew.cell rfl)) ?_    -- s32 := load 5 [t31]
    refine JL.val ((Run.subW rfl rfl).to (v' := .int .u8 255) (by rw [wrap_u8 (by omega) (by omega)]; rfl)) ?_    -- s33 := sub t30 t32
    refine JL.val (Run.conv64 Yba.underlying3 ⟨_, Yba.underlying5⟩ rfl (by omega) (by omega)) ?_    -- s34 := conv 5>3 t33
    refine JL.val (Run.add (c := 256) rfl rfl (by omega) (by omega) (by omega)) ?_    -- s35 := add t34 c:1:i64
    refine JL.val (Run.add (c := ((1 * 256 : Nat) : Int)) rfl rfl (by omega) (by omega) (by omega)) ?_    -- s36 := add t28 t35
    refine JL.val (Run.assign rfl) ?_    -- s6 := assign t36
    refine JL.to (fun _ _ h => h) ?_
    refine J.region ?_    -- region 8
    refine JL.val (Run.add (c := ((1 : Nat) : Int)) rfl rfl (by omega) (by omega) (by omega)) ?_    -- s37 := add t18 c:1:i64
    refine JL.val (Run.move rfl) ?_    -- s18 := move t37
    refine JL.nil fun a ha => ⟨1, by omega, ha.sub ⟨rfl, rfl, rfl, rfl, rfl, rfl, trivial⟩, by omega, hp2⟩
  · have hqk : q = k := by have := of_decide_eq_false hc; omega
    subst hqk
    refine J.exitTo (fun _ _ h => h) ?_    -- exit 0
    refine J.seq ?_
    refine J.seq ?_
    refine J.region ?_    -- region 9
    refine JL.val (Run.move rfl) ?_    -- s38 := move t6
    refine JL.val (Run.lss rfl rfl) ?_    -- s39 := lss t38 c:256:i64
    refine JL.to (fun _ _ h => h) ?_
    refine J.cond rfl (fun hc => ?_) (fun hc => ?_)    -- if t39
    · have hk0 : q = 0 := by have := of_decide_eq_true hc; omega
      have hr := hR w1 hp
      have e : (if s.star then (1 : Int) else 0) = 0 := by
        cases hst : s.star with
        | true => rw [hst] at hks; simp at hks; omega
        | false => rfl
      rw [e] at hr
      refine J.seq ?_
      refine J.region ?_    -- region 10
      refine JL.val (Run.assign rfl) ?_    -- s4 := assign c:0:i64
      refine JL.to (fun _ _ h => h) ?_
      refine J.ret1 Yba.f45 R (fun _ _ h => h) rfl rfl ?_
      exact hr
    · have hk0 : q = 1 := by have := of_decide_eq_false hc; omega
      have hr := hR w1 hp
      have e : (if s.star then (1 : Int) else 0) = (q : Int) := by
        cases hst : s.star with
        | true => rw [hk0]; rfl
        | false => rw [hst] at hks; simp at hks; omega
      rw [e] at hr
      refine J.skipTo (fun _ _ h => h) ?_
      refine J.seq ?_
      refine J.region ?_    -- region 11
      refine JL.val (Run.move rfl) ?_    -- s40 := move t5
      refine JL.val (Run.assign rfl) ?_    -- s4 := assign t40
      refine JL.to (fun _ _ h => h) ?_
      refine J.ret1 Yba.f45 R (fun _ _ h => h) rfl rfl ?_
      exact hr
end Go.Proofs.Ybulkpgu
