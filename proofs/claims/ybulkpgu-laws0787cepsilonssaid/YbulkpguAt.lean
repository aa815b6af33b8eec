/-
  stateList.at, stateList.add.
-/
import Derived.Test.YbulkpguList
namespace Go.Proofs.Ybulkpgu
open Go.Fw Go.RowKit
attribute [local simp] Go.Fw.stl_size Go.Fw.sto_size

set_option maxRecDepth 100000
theorem at_calls {w0 w : World} {h : Hn} {t vb i : Nat} {sts : List Sv} {s : Sv} (hp : Hp w0 w h) (hle : LsE h t vb sts) (hi : sts[i]? = some s)
    (R : Ending → World → Prop) (hR : ∀ rb cur, At h t i s rb cur → R (.returned (.pointer (some ⟨rb, i % 16384 * 5, none⟩))) w) :
    Calls Yba.prog 18 #[.pointer (some ⟨vb, 0, none⟩), .int .i32 (i : Int)] w R := by
  obtain ⟨ov, rows, hl, hrn⟩ := hle
  have hil : i < sts.length := (List.getElem?_eq_some_iff.1 hi).1
  have hbig := hl.big
  have hcl : i % 16384 < (chunk sts (i / 16384)).length := by rw [chunk_len]; omega
  obtain ⟨rb, cap, cur, hrow, hat⟩ := hl.at (by omega) hi
  obtain ⟨og, oc, hov, hcell⟩ := hl.out.cell hp hrow
  have hvar := hp.blk hl.var
  rw [hov] at hvar
  refine calls (args := [_, _]) (m := 2) Yba.func18 rfl rfl rfl (by decide) ?_
  refine J.seq ?_
  refine J.region ?_    -- region 0
  refine JL.val (Run.assign rfl) ?_    -- s4 := assign c:pointer(none)
  refine JL.to (fun _ _ h => h) ?_
  refine J.seq ?_
  refine J.region ?_    -- region 1
  refine JL.val (Run.move rfl) ?_    -- s5 := move t0
  refine JL.val (Run.nil rfl) ?_    -- s6 := nilCheck t5
  refine JL.val (Run.field fl42_0 rfl) ?_    -- s7 := field 42 t6 .0
  refine JL.val (Run.load t40 rfl (hvar.cell rfl)) ?_    -- s8 := load 40 [t7]
  refine JL.val (Run.move rfl) ?_    -- s9 := move t1
  refine JL.val (Run.shr14 rfl rfl) ?_    -- s10 := shr t9 c:14:u64
  refine JL.val (Run.index Yba.underlying40 c74 (by decide) rfl rfl (by omega)) ?_    -- s11 := index 40 t8 [t10]
  refine JL.val (Run.load t74 rfl (by rw [Nat.mul_one, Nat.zero_add]; exact hcell)) ?_    -- s12 := load 74 [t11]
  refine JL.val (Run.move rfl) ?_    -- s13 := move t1
  refine JL.val (Run.and14 rfl rfl (by omega)) ?_    -- s14 := and t13 c:16383:i32
  refine JL.val (Run.index Yba.underlying74 c48 (by decide) rfl rfl hcl) ?_    -- s15 := index 74 t12 [t14]
  refine JL.val (Run.assign rfl) ?_    -- s4 := assign t15
  refine JL.to (fun _ _ h => h) ?_
  refine J.ret1 Yba.f18 R (fun _ _ h => h) rfl rfl ?_
  rw [Nat.zero_add]
  exact hR rb cur hat

abbrev zc : List Value := [.slice none 0 0, .slice none 0 0, .slice none 0 0, .int .i32 0, .int .i32 0]

/-- What add leaves alone. -/
def Fr (h h' : Hn) (t : Nat) : Prop := ∀ n : Nat × Nat, n.1 ≠ t → n.1 ≠ t + 1 → n.1 ≠ 99 → h' n = h n
theorem Fr.refl (h : Hn) (t : Nat) : Fr h h t := fun _ _ _ _ => rfl
theorem Fr.trans {h h' h'' : Hn} {t : Nat} (a : Fr h h' t) (b : Fr h' h'' t) : Fr h h'' t := fun n h1 h2 h3 => (b n h1 h2 h3).trans (a n h1 h2 h3)
theorem Fr.hup {h h' : Hn} {t : Nat} (a : Fr h h' t) {k : Nat × Nat} (hk : k.1 = t ∨ k.1 = t + 1 ∨ k.1 = 99) (x : Option (Nat × Obj)) : Fr h (Go.Fw.hup h' k x) t := fun n h1 h2 h3 => by
  rw [hup_ne (fun e => by subst e; omega)]
  exact a n h1 h2 h3

theorem add_calls {w0 w : World} {h : Hn} {t vb : Nat} {sts : List Sv} (ht : t + 2 < 99) (hp : Hp w0 w h) (hle : LsE h t vb sts) (hlen : sts.length ≤ 900000)
    (R : Ending → World → Prop) (hR : ∀ w' h', Hp w0 w' h' → LsE h' t vb (sts ++ [sv0]) → Fr h h' t → R (.returned (.int .i32 (sts.length : Int))) w') :
    Calls Yba.prog 16 #[.pointer (some ⟨vb, 0, none⟩), .agg zc.toArray] w R := by
  obtain ⟨ov, rows, hl, hrn⟩ := hle
  obtain ⟨oa, oc, hov⟩ := hl.out.slice
  refine calls (args := [_, _]) (m := 2) Yba.func16 rfl rfl rfl (by decide) ?_
  refine J.seq ?_
  refine J.region ?_    -- region 0
  refine JL.val (Run.box (l := zc) rfl rfl) ?_    -- s3 := box 48 t1
  refine JL.val (Run.assign rfl) ?_    -- s4 := assign c:0:i32
  refine JL.to (fun _ _ h => h) ?_
  have hp1 := hp.new (99, 0) (cellsO zc 48)
  have hl1 : Ls (hup h (99, 0) (some (w.heap.size, cellsO zc 48))) t vb sts ov rows := hl.keep fun n hn => hup_ne (fun e => by subst e; simp at hn; omega)
  have hbx : hup h (99, 0) (some (w.heap.size, cellsO zc 48)) (99, 0) = some (w.heap.size, cellsO zc 48) := hup_same
  have hf1 : Fr h (hup h (99, 0) (some (w.heap.size, cellsO zc 48))) t := (Fr.refl h t).hup (.inr (.inr rfl)) _
  generalize hup h (99, 0) (some (w.heap.size, cellsO zc 48)) = h1 at *
  generalize w.alloc (cellsO zc 48) = w1 at *
  generalize w.heap.size = bx at *
  clear hp hl
  have hvar := hp1.blk hl1.var
  rw [hov] at hvar
  refine J.mid (ι := Hn) (fun _ => [(0, .pointer (some ⟨vb, 0, none⟩)), (3, .pointer (some ⟨bx, 0, none⟩))])
    (fun h2 w2 => ∃ ov rows, Hp w0 w2 h2 ∧ Ls h2 t vb sts ov rows ∧ rows.length = sts.length / 16384 + 1 ∧ h2 (99, 0) = some (bx, cellsO zc 48) ∧ Fr h h2 t) ?_ ?_
  · refine J.seq ?_
    -- region 1 draws
    have hS : Blk w1.drew vb 44 [.slice oa rows.length oc, .int .i32 (sts.length : Int), .int .i32 0] := hvar
    refine J.draw (fun x => Blk x vb 44 [.slice oa rows.length oc, .int .i32 (sts.length : Int), .int .i32 0]) 12 [(0, true), (1, true), (2, true), (3, true), (4, true), (5, true), (6, true), (7, true), (8, true), (9, true), (10, true), (11, true)] (by kernel_rfl) (by kernel_rfl) ?_
    refine JS.take (i := 0) rfl hS (fun w' hw' => Run.move rfl) ?_    -- s7 := move t0
    refine JS.take (i := 1) rfl hS (fun w' hw' => Run.nil rfl) ?_    -- s8 := nilCheck t7
    refine JS.take (i := 2) rfl hS (fun w' hw' => Run.field fl42_1 rfl) ?_    -- s9 := field 42 t8 .1
    refine JS.take (i := 3) rfl hS (fun w' hw' => Run.load t21 rfl (hw'.cell rfl)) ?_    -- s10 := load 21 [t9]
    refine JS.take (i := 4) rfl hS (fun w' hw' => Run.shr14 rfl rfl) ?_    -- s11 := shr t10 c:14:u64
    refine JS.take (i := 5) rfl hS (fun w' hw' => Run.conv64 Yba.underlying3 ⟨_, Yba.underlying21⟩ rfl (by omega) (by omega)) ?_    -- s12 := conv 21>3 t11
    refine JS.take (i := 6) rfl hS (fun w' hw' => Run.move rfl) ?_    -- s13 := move t0
    refine JS.take (i := 7) rfl hS (fun w' hw' => Run.nil rfl) ?_    -- s14 := nilCheck t13
    refine JS.take (i := 8) rfl hS (fun w' hw' => Run.field fl42_0 rfl) ?_    -- s15 := field 42 t14 .0
    refine JS.take (i := 9) rfl hS (fun w' hw' => Run.load t40 rfl (hw'.cell rfl)) ?_    -- s16 := load 40 [t15]
    refine JS.take (i := 10) rfl hS (fun w' hw' => Run.len Yba.underlying40 rfl) ?_    -- s17 := builtin Builtin.len(t16) [40]
    refine JS.take (i := 11) rfl hS (fun w' hw' => Run.eql rfl rfl) ?_    -- s18 := eql t12 t17
    refine JS.to (fun _ _ h => h) ?_
    refine J.cond rfl (fun hc => ?_) (fun hc => ?_)    -- if t18
    · have heq : sts.length / 16384 = rows.length := by have := of_decide_eq_true hc; omega
      clear hc
      refine J.seq ?_
      refine J.region ?_    -- region 2
      refine JL.val (Run.assign rfl) ?_    -- s5 := assign c:slice(none,0,0)
      refine JL.to (fun _ _ h => h) ?_
      refine J.mid (ι := Hn × Value) (fun i => [(0, .pointer (some ⟨vb, 0, none⟩)), (3, .pointer (some ⟨bx, 0, none⟩)), (5, i.2)])
        (fun i w2 => Hp w0 w2 i.1 ∧ Ls i.1 t vb sts (.slice oa rows.length oc) rows ∧ Sl i.1 (t + 1, rows.length) 48 5 i.2 0 [] ∧ i.1 (99, 0) = some (bx, cellsO zc 48) ∧ Fr h i.1 t) ?_ ?_
      · refine J.seq ?_
        refine J.region ?_    -- region 3
        refine JL.val (Run.move rfl) ?_    -- s19 := move t0
        refine JL.val (Run.nil rfl) ?_    -- s20 := nilCheck t19
        refine JL.val (Run.field fl42_1 rfl) ?_    -- s21 := field 42 t20 .1
        refine JL.val (Run.load t21 rfl (hS.cell rfl)) ?_    -- s22 := load 21 [t21]
        refine JL.val (Run.gtr rfl rfl) ?_    -- s23 := gtr t22 c:0:i32
        refine JL.to (fun _ _ h => h) ?_
        refine J.cond rfl (fun hc => ?_) (fun hc => ?_)    -- if t23
        · refine J.region ?_    -- region 4
          refine JL.val (Run.make (l := 0) (c := 16384) (zs := zc) el74 z48 rfl rfl rfl (by omega) (by omega) (by omega)) ?_    -- s24 := makeSlice 74 c:0:i64 c:16384:i64
          refine JL.val (Run.assign rfl) ?_    -- s5 := assign t24
          have hl2 : Ls (hup h1 (t + 1, rows.length) (some (w1.drew.heap.size, cellsO (rep 16384 zc) 48))) t vb sts (.slice oa rows.length oc) rows := by
            have hl2 := hl1
            rw [hov] at hl2
            refine ⟨?_, ?_, ?_, ?_, hl2.big⟩
            · rw [hup_ne (by simp)]; exact hl2.var
            · exact hl2.out.hup (by simp)
            · intro k rv hk
              have hkl : k < rows.length := (List.getElem?_eq_some_iff.1 hk).1
              exact (hl2.row k rv hk).hup (by simp; omega)
            · intro i s hs
              rw [hup_ne (by simp)]
              exact hl2.edg i s hs
          have hs2 : Sl (hup h1 (t + 1, rows.length) (some (w1.drew.heap.size, cellsO (rep 16384 zc) 48))) (t + 1, rows.length) 48 5 (.slice (some ⟨w1.drew.heap.size, 0, none⟩) 0 16384) 0 [] :=
            ⟨by simp, .inr ⟨_, 16384, rep 16384 zc, rfl, hup_same, by omega, by unfold maxLen; omega, by rw [rep_length]; rfl, by simp⟩⟩
          have hb2 : hup h1 (t + 1, rows.length) (some (w1.drew.heap.size, cellsO (rep 16384 zc) 48)) (99, 0) = some (bx, cellsO zc 48) := by rw [hup_ne (by simp; omega)]; exact hbx
          refine JL.nil fun a ha => ⟨(hup h1 (t + 1, rows.length) (some (w1.drew.heap.size, cellsO (rep 16384 zc) 48)), .slice (some ⟨w1.drew.heap.size, 0, none⟩) 0 16384), ha.sub ⟨rfl, rfl, rfl, trivial⟩, hp1.drew.new _ _, hl2, hs2, hb2, hf1.hup (.inr (.inl rfl)) _⟩
        · refine J.skip fun a ha => ⟨(h1, .slice none 0 0), ha.sub ⟨rfl, rfl, rfl, trivial⟩, hp1.drew, by rw [← hov]; exact hl1, Sl.nil _ _ _ _, hbx, hf1⟩
      · rintro ⟨h2, rv⟩ w2 ⟨hp2, hl2, hrv, hbx2, hf2⟩
        simp only at hp2 hl2 hrv hbx2 hf2
        have hvar2 := hp2.blk hl2.var
        have hl2o := hl2.out
        have hnew : Blk (w2.alloc (.cells [rv].toArray 74)) w2.heap.size 74 [rv] := Blk.new _ _ _
        have hp3 := hp2.alloc (.cells [rv].toArray 74)
        obtain ⟨b4, cap4, w4, cur4, hrun, hp4, hs4⟩ := Hp.append (P := Yba.prog) (T := 40) (ad := ⟨w2.heap.size, 0, none⟩) (m := 1) (c := 1) (news := [rv]) hp3 el40 hl2o (by simp)
          (fun j x hj => by rw [addr_add, Nat.zero_add]; exact hnew.cell hj) (by simp [hrv.one]) (by omega) (by omega) (by omega)
        have hvar4 : hup h2 (t, 1) (some (b4, cellsO cur4 74)) (t, 0) = some (vb, cellsO [.slice oa rows.length oc, .int .i32 (sts.length : Int), .int .i32 0] 44) := by rw [hup_ne (by simp)]; exact hl2.var
        refine J.region ?_    -- region 5
        refine JL.val (Run.move rfl) ?_    -- s25 := move t0
        refine JL.val (Run.move rfl) ?_    -- s26 := move t0
        refine JL.val (Run.nil rfl) ?_    -- s27 := nilCheck t26
        refine JL.val (Run.field fl42_0 rfl) ?_    -- s28 := field 42 t27 .0
        refine JL.val (Run.load t40 rfl (hvar2.cell rfl)) ?_    -- s29 := load 40 [t28]
        refine JL.val (Run.move rfl) ?_    -- s30 := move t5
        refine JL.val (Run.buildSlice rfl (buildSlice1 el40 hrv.one)) ?_    -- s31 := buildSlice 40 1 [(0,(Operand.tmp 30))]
        refine JL.val (Run.append rfl rfl hrun) ?_    -- s32 := builtin Builtin.append(t29, t31) [40,40]
        refine JL.val (Run.nil rfl) ?_    -- s33 := nilCheck t25
        refine JL.val (Run.field fl42_0 rfl) ?_    -- s34 := field 42 t33 .0
        refine JL.eff (Run.store c40 rfl rfl rfl (hp4.blk hvar4) (by simp)) ?_    -- sNone := store 40 [t34] := t32
        refine JL.nil fun a ha => ⟨hup (hup h2 (t, 1) (some (b4, cellsO cur4 74))) (t, 0) (some (vb, cellsO [.slice (some ⟨b4, 0, none⟩) (rows.length + 1) cap4, .int .i32 (sts.length : Int), .int .i32 0] 44)), ha.sub ⟨rfl, rfl, trivial⟩, .slice (some ⟨b4, 0, none⟩) (rows.length + 1) cap4, rows ++ [rv], hp4.stl hvar4 _, ?_, by simp; omega, ?_, (hf2.hup (.inl rfl) _).hup (.inl rfl) _⟩
        · refine ⟨hup_same, ?_, ?_, ?_, hl2.big⟩
          · rw [List.length_append, List.length_singleton]
            exact hs4.hup (by simp)
          · intro k rv' hk
            refine Sl.hup (Sl.hup ?_ (by simp)) (by simp)
            rcases Nat.lt_or_ge k rows.length with hkl | hkl
            · rw [List.getElem?_append_left hkl] at hk
              exact hl2.row k rv' hk
            · rw [List.getElem?_append_right hkl] at hk
              have hk0 : k - rows.length = 0 := by
                rcases Nat.eq_zero_or_pos (k - rows.length) with h0 | h0
                · exact h0
                · rw [List.getElem?_eq_none (by simp; omega)] at hk; simp at hk
              rw [hk0] at hk
              simp at hk
              subst hk
              have hkk : k = rows.length := by omega
              subst hkk
              have hce : chunk sts rows.length = [] := List.eq_nil_of_length_eq_zero (by rw [chunk_len]; omega)
              rw [hce]
              exact hrv
          · intro i s hs
            rw [hup_ne (by simp), hup_ne (by simp)]
            exact hl2.edg i s hs
        · rw [hup_ne (by simp; omega), hup_ne (by simp)]; exact hbx2
    · have hne : sts.length / 16384 ≠ rows.length := by have := of_decide_eq_false hc; omega
      refine J.skip fun a ha => ⟨h1, ha.sub ⟨rfl, rfl, trivial⟩, ov, rows, hp1.drew, hl1, by omega, hbx, hf1⟩
  · clear hl1 hp1 hvar hf1 hbx hov hrn
    clear rows ov oa oc
    rintro h2 w2 ⟨ov, rows, hp2, hl2, hrn, hbx, hf2⟩
    have hk : sts.length / 16384 < rows.length := by omega
    obtain ⟨rv, hrv⟩ : ∃ rv, rows[sts.length / 16384]? = some rv := ⟨rows[sts.length / 16384], List.getElem?_eq_getElem hk⟩
    obtain ⟨og, oc, hov, hcell⟩ := hl2.out.cell hp2 hrv
    have hvar := hp2.blk hl2.var
    rw [hov] at hvar
    refine J.seq ?_
    -- region 6 draws
    have hS : Blk w2.drew vb 44 [.slice (some ⟨og, 0, none⟩) rows.length oc, .int .i32 (sts.length : Int), .int .i32 0] := hvar
    refine J.draw (fun x => Blk x vb 44 [.slice (some ⟨og, 0, none⟩) rows.length oc, .int .i32 (sts.length : Int), .int .i32 0]) 12 [(0, true), (1, true), (2, true), (3, true), (4, true), (5, true), (6, true), (7, true), (8, true), (9, true), (10, true), (11, true)] (by kernel_rfl) (by kernel_rfl) ?_
    refine JS.take (i := 0) rfl hS (fun w' hw' => Run.move rfl) ?_    -- s35 := move t0
    refine JS.take (i := 1) rfl hS (fun w' hw' => Run.nil rfl) ?_    -- s36 := nilCheck t35
    refine JS.take (i := 2) rfl hS (fun w' hw' => Run.field fl42_0 rfl) ?_    -- s37 := field 42 t36 .0
    refine JS.take (i := 3) rfl hS (fun w' hw' => Run.load t40 rfl (hw'.cell rfl)) ?_    -- s38 := load 40 [t37]
    refine JS.take (i := 4) rfl hS (fun w' hw' => Run.move rfl) ?_    -- s39 := move t0
    refine JS.take (i := 5) rfl hS (fun w' hw' => Run.nil rfl) ?_    -- s40 := nilCheck t39
    refine JS.take (i := 6) rfl hS (fun w' hw' => Run.field fl42_0 rfl) ?_    -- s41 := field 42 t40 .0
    refine JS.take (i := 7) rfl hS (fun w' hw' => Run.load t40 rfl (hw'.cell rfl)) ?_    -- s42 := load 40 [t41]
    refine JS.take (i := 8) rfl hS (fun w' hw' => Run.len Yba.underlying40 rfl) ?_    -- s43 := builtin Builtin.len(t42) [40]
    refine JS.take (i := 9) rfl hS (fun w' hw' => Run.sub (c := ((sts.length / 16384 : Nat) : Int)) rfl rfl (by omega) (by omega) (by omega)) ?_    -- s44 := sub t43 c:1:i64
    refine JS.take (i := 10) rfl hS (fun w' hw' => Run.index Yba.underlying40 c74 (by decide) rfl rfl hk) ?_    -- s45 := index 40 t38 [t44]
    refine JS.take (i := 11) rfl hS (fun w' hw' => Run.assign rfl) ?_    -- s6 := assign t45
    refine JS.to (fun _ _ h => h) ?_
    rw [show 0 + sts.length / 16384 * 1 = sts.length / 16384 by omega]
    -- the row, and what is appended to it
    have hrow := hl2.row _ _ hrv
    have hcl : (chunk sts (sts.length / 16384)).length ≤ 16384 := by rw [chunk_len]; omega
    have hpD := hp2.drew.drew
    have hnew : Blk (w2.drew.drew.alloc (.cells zc.toArray 48)) w2.drew.drew.heap.size 48 zc := Blk.new _ _ _
    have hp3 := hpD.alloc (.cells zc.toArray 48)
    obtain ⟨b4, cap4, w4, cur4, hrun, hp4, hs4⟩ := Hp.append (P := Yba.prog) (T := 74) (ad := ⟨w2.drew.drew.heap.size, 0, none⟩) (m := 1) (c := 1) (news := zc) hp3 el74 hrow (by simp [zc])
      (fun j x hj => by rw [addr_add, Nat.zero_add]; exact hnew.cell hj) (by simp [zc, Value.oneCell']) (by omega) (by omega) (by omega)
    have hout4 : Sl (hup h2 (t + 1, sts.length / 16384) (some (b4, cellsO cur4 48))) (t, 1) 74 1 ov rows.length rows := hl2.out.hup (by simp)
    have hbx4 : hup h2 (t + 1, sts.length / 16384) (some (b4, cellsO cur4 48)) (99, 0) = some (bx, cellsO zc 48) := by rw [hup_ne (by simp; omega)]; exact hbx
    have hSt : ∀ x hh, Hp w0 x hh → Sl hh (t, 1) 74 1 ov rows.length rows → hh (99, 0) = some (bx, cellsO zc 48) → (x.cell? ⟨og, sts.length / 16384, none⟩ = some rv ∧ Blk x bx 48 zc) := fun x hh hpx hox hbxx => by
      obtain ⟨g', c', hv', hc'⟩ := hox.cell hpx hrv
      rw [hov] at hv'
      cases hv'
      exact ⟨hc', hpx.blk hbxx⟩
    have hSa := hSt _ _ hpD hl2.out hbx
    have hSb := hSt _ _ hp3 hl2.out hbx
    have hSc := hSt _ _ hp4 hout4 hbx4
    refine J.seq ?_
    -- region 7 draws
    refine J.draw (fun x => x.cell? ⟨og, sts.length / 16384, none⟩ = some rv ∧ Blk x bx 48 zc) 8 [(0, true), (1, true), (2, true), (3, true), (4, true), (5, false), (6, false), (7, true), (8, false)] (by kernel_rfl) (by kernel_rfl) ?_
    refine JS.take (i := 0) rfl hSa (fun w' hw' => Run.move rfl) ?_    -- s46 := move t6
    refine JS.take (i := 1) rfl hSa (fun w' hw' => Run.move rfl) ?_    -- s47 := move t6
    refine JS.take (i := 2) rfl hSa (fun w' hw' => Run.nil rfl) ?_    -- s48 := nilCheck t47
    refine JS.take (i := 3) rfl hSa (fun w' hw' => Run.load t74 rfl hw'.1) ?_    -- s49 := load 74 [t48]
    refine JS.take (i := 4) rfl hSa (fun w' hw' => Run.loadA (cs := zc) ta48 rfl (fun j u hj => by rw [Nat.zero_add]; exact hw'.2.cell hj)) ?_    -- s50 := load 48 [t3]
    refine JS.loud (i := 5) rfl (Run.buildSlice rfl lit74) (fun _ => hSb) ?_    -- s51 := buildSlice 74 1 [(0,(Operand.tmp 50))]
    refine JS.loud (i := 6) rfl (Run.append rfl rfl hrun) (fun _ => hSc) ?_    -- s52 := builtin Builtin.append(t49, t51) [74,74]
    refine JS.take (i := 7) rfl hSc (fun w' hw' => Run.nil rfl) ?_    -- s53 := nilCheck t46
    rw [hov] at hout4
    obtain ⟨l5, hl5, hll5, h5⟩ := hout4.set hp4 (j := sts.length / 16384) (by omega)
    obtain ⟨hp5, hs5⟩ := h5 (.slice (some ⟨b4, 0, none⟩) ((chunk sts (sts.length / 16384)).length + 1) cap4)
    refine JS.eff (i := 8) rfl (Run.store c74 rfl rfl rfl hl5 hll5) (fun h => absurd rfl h) ?_    -- sNone := store 74 [t53] := t52
    refine JS.to (fun _ _ h => h) ?_
    -- n
    have hvar5 : hup (hup h2 (t + 1, sts.length / 16384) (some (b4, cellsO cur4 48))) (t, 1) (some (og, cellsO (l5.set (sts.length / 16384) (.slice (some ⟨b4, 0, none⟩) ((chunk sts (sts.length / 16384)).length + 1) cap4)) 74)) (t, 0) = some (vb, cellsO [.slice (some ⟨og, 0, none⟩) rows.length oc, .int .i32 (sts.length : Int), .int .i32 0] 44) := by
      rw [hup_ne (by simp), hup_ne (by simp), hl2.var, hov]
    have hrow5 : Sl (hup (hup h2 (t + 1, sts.length / 16384) (some (b4, cellsO cur4 48))) (t, 1) (some (og, cellsO (l5.set (sts.length / 16384) (.slice (some ⟨b4, 0, none⟩) ((chunk sts (sts.length / 16384)).length + 1) cap4)) 74))) (t + 1, sts.length / 16384) 48 5 (.slice (some ⟨b4, 0, none⟩) ((chunk sts (sts.length / 16384)).length + 1) cap4) ((chunk sts (sts.length / 16384)).length + 1) (flat (chunk sts (sts.length / 16384)) ++ zc) := hs4.hup (by simp)
    have hoth5 : ∀ n : Nat × Nat, n ≠ (t + 1, sts.length / 16384) → n ≠ (t, 1) → hup (hup h2 (t + 1, sts.length / 16384) (some (b4, cellsO cur4 48))) (t, 1) (some (og, cellsO (l5.set (sts.length / 16384) (.slice (some ⟨b4, 0, none⟩) ((chunk sts (sts.length / 16384)).length + 1) cap4)) 74)) n = h2 n := fun n h1 h2 => by rw [hup_ne h2, hup_ne h1]
    have hf5 : Fr h (hup (hup h2 (t + 1, sts.length / 16384) (some (b4, cellsO cur4 48))) (t, 1) (some (og, cellsO (l5.set (sts.length / 16384) (.slice (some ⟨b4, 0, none⟩) ((chunk sts (sts.length / 16384)).length + 1) cap4)) 74))) t := (hf2.hup (.inr (.inl rfl)) _).hup (.inl rfl) _
    generalize hup (hup h2 (t + 1, sts.length / 16384) (some (b4, cellsO cur4 48))) (t, 1) (some (og, cellsO (l5.set (sts.length / 16384) (.slice (some ⟨b4, 0, none⟩) ((chunk sts (sts.length / 16384)).length + 1) cap4)) 74)) = h5 at *
    generalize Fw.stl w4 og (l5.set (sts.length / 16384) (.slice (some ⟨b4, 0, none⟩) ((chunk sts (sts.length / 16384)).length + 1) cap4)) = w5 at *
    have hp6 := hp5.stl hvar5 [.slice (some ⟨og, 0, none⟩) rows.length oc, .int .i32 ((sts.length + 1 : Nat) : Int), .int .i32 0]
    refine J.seq ?_
    refine J.region ?_    -- region 8
    refine JL.val (Run.move rfl) ?_    -- s54 := move t0
    refine JL.val (Run.nil rfl) ?_    -- s55 := nilCheck t54
    refine JL.val (Run.field fl42_1 rfl) ?_    -- s56 := field 42 t55 .1
    refine JL.val (Run.load t21 rfl ((hp5.blk hvar5).cell rfl)) ?_    -- s57 := load 21 [t56]
    refine JL.val ((Run.addW rfl rfl).to (v' := .int .i32 ((sts.length + 1 : Nat) : Int)) (by rw [wrap_id32 (by omega) (by omega)]; simp)) ?_    -- s58 := add t57 c:1:i32
    refine JL.val (Run.nil rfl) ?_    -- s59 := nilCheck t54
    refine JL.val (Run.field fl42_1 rfl) ?_    -- s60 := field 42 t59 .1
    refine JL.eff (Run.store c21 rfl rfl rfl (hp5.blk hvar5) (by simp)) ?_    -- sNone := store 21 [t60] := t58
    refine JL.to (fun _ _ h => h) ?_
    refine J.seq ?_
    refine J.region ?_    -- region 9
    refine JL.val (Run.move rfl) ?_    -- s61 := move t0
    refine JL.val (Run.nil rfl) ?_    -- s62 := nilCheck t61
    refine JL.val (Run.field fl42_1 rfl) ?_    -- s63 := field 42 t62 .1
    refine JL.val (Run.load t21 rfl ((hp6.blk hup_same).cell rfl)) ?_    -- s64 := load 21 [t63]
    refine JL.val ((Run.subW rfl rfl).to (v' := .int .i32 (sts.length : Int)) (by rw [wrap_id32 (by omega) (by omega)]; congr 1; omega)) ?_    -- s65 := sub t64 c:1:i32
    refine JL.val (Run.assign rfl) ?_    -- s4 := assign t65
    refine JL.to (fun _ _ h => h) ?_
    refine J.ret1 Yba.f16 R (fun _ _ h => h) rfl rfl ?_
    refine hR _ _ hp6 ⟨.slice (some ⟨og, 0, none⟩) rows.length oc, rows.set (sts.length / 16384) (.slice (some ⟨b4, 0, none⟩) ((chunk sts (sts.length / 16384)).length + 1) cap4), ⟨?_, ?_, ?_, ?_, by rw [List.length_append, List.length_singleton]; omega⟩, by rw [List.length_set, List.length_append, List.length_singleton]; omega⟩ (hf5.hup (.inl rfl) _)
    · rw [hup_same, List.length_append, List.length_singleton]
    · rw [List.length_set]
      exact hs5.hup (by simp)
    · intro k rv' hk'
      refine Sl.hup ?_ (by simp)
      rw [chunk_snoc]
      by_cases hkk : k = sts.length / 16384
      · subst hkk
        rw [List.getElem?_set_self hk] at hk'
        cases hk'
        rw [if_pos rfl, List.length_append, List.length_singleton, flat_append, flat_one]
        exact hrow5
      · rw [if_neg hkk]
        rw [List.getElem?_set_ne (Ne.symm hkk)] at hk'
        exact (hl2.row k rv' hk').keep (hoth5 _ (by simp; exact hkk) (by simp))
    · intro i s hs
      rw [hup_ne (by simp), hoth5 _ (by simp) (by simp)]
      rcases Nat.lt_or_ge i sts.length with hil | hil
      · rw [List.getElem?_append_left hil] at hs
        exact hl2.edg i s hs
      · rw [List.getElem?_append_right hil] at hs
        have := List.mem_of_getElem? hs
        simp at this
        subst this
        exact .inl ⟨rfl, rfl⟩
end Go.Proofs.Ybulkpgu
