/-
  zzs0793bbuild: the graph of the edges.
-/
import Derived.Test.YbulkpkaSettle
import Derived.Test.YbulkpkaSearch
namespace Go.Proofs.Ybulkpka
open Go.Fw Go.RowKit
attribute [local simp] Go.Fw.stl_size

theorem z30 : Zero Yba.prog 30 (.agg #[.int .u8 0, .int .u8 0]) := Zero.of (by kernel_rfl)

/-- A slice of pairs of bytes that can be read. -/
def Eds (w : World) (v : Value) (es : List (Nat × Nat)) : Prop :=
  ∃ a cap, v = .slice a es.length cap ∧ ∀ i (e : Nat × Nat), es[i]? = some e → e.1 < 256 ∧ e.2 < 256 ∧
    ∃ b o, a = some ⟨b, o, none⟩ ∧ w.cell? ⟨b, o + i * 2, none⟩ = some (.int .u8 ((e.1 : Nat) : Int)) ∧ w.cell? ⟨b, o + i * 2 + 1, none⟩ = some (.int .u8 ((e.2 : Nat) : Int))

/-- The edges' ends, as node numbers. -/
def md (n : Nat) (es : List (Nat × Nat)) : List (Nat × Nat) := es.map fun e => (e.1 % n, e.2 % n)

theorem md_lt {n : Nat} (hn : 0 < n) (es : List (Nat × Nat)) : ∀ e ∈ md n es, e.1 < n ∧ e.2 < n := by
  intro e he
  obtain ⟨d, _, rfl⟩ := List.mem_map.1 he
  exact ⟨Nat.mod_lt _ hn, Nat.mod_lt _ hn⟩

theorem take_snoc {α : Type} {xs : List α} {i : Nat} {x : α} (h : xs[i]? = some x) : xs.take (i + 1) = xs.take i ++ [x] := by
  rw [List.take_add_one, h]
  rfl

theorem adj_snoc {es : List (Nat × Nat)} {e : Nat × Nat} {u v : Nat} : adjOf (es ++ [e]) u v ↔ adjOf es u v ∨ (e.1 ≠ e.2 ∧ ((u = e.1 ∧ v = e.2) ∨ (u = e.2 ∧ v = e.1))) := by
  unfold adjOf
  constructor
  · rintro ⟨d, hd, h⟩
    rcases List.mem_append.1 hd with hd | hd
    · exact .inl ⟨d, hd, h⟩
    · simp at hd
      subst hd
      exact .inr h
  · rintro (⟨d, hd, h⟩ | h)
    · exact ⟨d, List.mem_append_left _ hd, h⟩
    · exact ⟨e, by simp, h⟩

theorem mem_push {i : Nat} {y x : Int} {ls : List (List Int)} (hi : i < ls.length) (u : Nat) : x ∈ (pushL i y ls).getD u [] ↔ x ∈ ls.getD u [] ∨ (u = i ∧ x = y) := by
  unfold pushL
  rw [getD_setL _ _ _ _ hi]
  split
  · rename_i e
    subst e
    simp
  · rename_i e
    simp [e]

theorem len_push {i : Nat} {y : Int} {ls : List (List Int)} (hi : i < ls.length) (u : Nat) : ((pushL i y ls).getD u []).length ≤ (ls.getD u []).length + 1 := by
  unfold pushL
  rw [getD_setL _ _ _ _ hi]
  split
  · rename_i e
    subst e
    simp
  · omega

theorem push_length (i : Nat) (y : Int) (ls : List (List Int)) : (pushL i y ls).length = ls.length := by simp [pushL]

/-- What the graph lists once the edges 'es' are in. -/
structure Lst (m : Gr) (n k : Nat) (es : List (Nat × Nat)) : Prop where
  rows : m.rows.length = n
  mem : ∀ (u : Nat) (x : Int), x ∈ m.lists.getD u [] ↔ ∃ v : Nat, x = (v : Int) ∧ adjOf es u v
  len : ∀ u, (m.lists.getD u []).length ≤ k

theorem Lst.row {m : Gr} {n k : Nat} {es : List (Nat × Nat)} (h : Lst m n k es) : ∀ r ∈ m.rows, r.2.length ≤ k := by
  intro r hr
  obtain ⟨u, hu⟩ := List.getElem?_of_mem hr
  have := h.len u
  simpa [Gr.lists, hu] using this

theorem Lst.link {m m' : Gr} {n k : Nat} {es : List (Nat × Nat)} (h : Lst m n k es) (e : Nat × Nat) (he1 : e.1 < n) (he2 : e.2 < n) (hne : e.1 ≠ e.2) (hl : m'.lists = pushL e.2 e.1 (pushL e.1 e.2 m.lists)) : Lst m' n (k + 2) (es ++ [e]) := by
  have hll : m.lists.length = n := by simp [Gr.lists, h.rows]
  refine ⟨?_, fun u x => ?_, fun u => ?_⟩
  · have : m'.lists.length = m.lists.length := by rw [hl, push_length, push_length]
    simpa [Gr.lists, h.rows] using this
  · rw [hl, mem_push (by rw [push_length]; omega), mem_push (by omega), h.mem]
    constructor
    · rintro ((⟨v, rfl, hv⟩ | ⟨rfl, rfl⟩) | ⟨rfl, rfl⟩)
      · exact ⟨v, rfl, adj_snoc.2 (.inl hv)⟩
      · exact ⟨e.2, rfl, adj_snoc.2 (.inr ⟨hne, .inl ⟨rfl, rfl⟩⟩)⟩
      · exact ⟨e.1, rfl, adj_snoc.2 (.inr ⟨hne, .inr ⟨rfl, rfl⟩⟩)⟩
    · rintro ⟨v, rfl, hv⟩
      rcases adj_snoc.1 hv with hv | ⟨_, ⟨rfl, rfl⟩ | ⟨rfl, rfl⟩⟩
      · exact .inl (.inl ⟨v, rfl, hv⟩)
      · exact .inl (.inr ⟨rfl, rfl⟩)
      · exact .inr ⟨rfl, rfl⟩
  · have h1 := len_push (i := e.2) (y := e.1) (ls := pushL e.1 e.2 m.lists) (by rw [push_length]; omega) u
    have h2 := len_push (i := e.1) (y := e.2) (ls := m.lists) (by omega) u
    have h3 := h.len u
    rw [hl]
    omega

theorem Lst.skip {m : Gr} {n k : Nat} {es : List (Nat × Nat)} (h : Lst m n k es) (e : Nat × Nat) (hne : e.1 = e.2) : Lst m n (k + 2) (es ++ [e]) :=
  ⟨h.rows, fun u x => by
    rw [h.mem]
    constructor
    · rintro ⟨v, rfl, hv⟩
      exact ⟨v, rfl, adj_snoc.2 (.inl hv)⟩
    · rintro ⟨v, rfl, hv⟩
      rcases adj_snoc.1 hv with hv | ⟨h1, _⟩
      · exact ⟨v, rfl, hv⟩
      · exact absurd hne h1, fun u => by have := h.len u; omega⟩

set_option maxRecDepth 100000
theorem build_calls (w : World) (N n : Nat) (v : Value) (es : List (Nat × Nat)) (hv : Eds w v es) (hN : N ≤ w.heap.size) (hn0 : 0 < n) (hn : n ≤ 1000) (hes : es.length ≤ 1024)
    (R : Ending → World → Prop) (hR : ∀ w' m, GrOk w' N m → Upd w w' (fun _ => False) m.foot → Lst m n 3000 (md n es) → R (.returned (.pointer (some ⟨m.b, 0, none⟩))) w') :
    Calls Yba.prog 6 #[.int .i64 (n : Int), v] w R := by
  obtain ⟨a, cap, rfl, hc⟩ := hv
  refine calls (args := [_, _]) (m := 2) Yba.func6 rfl rfl rfl (by decide) ?_
  refine J.seq ?_
  refine J.region ?_    -- region 0
  refine JL.val (Run.assign rfl) ?_    -- s4 := assign c:pointer(none)
  refine JL.to (fun _ _ h => h) ?_
  refine J.seq ?_
  refine J.region ?_    -- region 1
  refine JL.val (Run.move rfl) ?_    -- s10 := move t0
  refine JL.call rfl Yba.func8 rfl rfl ?_    -- s11 := CALL f8(t10) [3]
  refine new_calls w N n hN hn _ ?_
  intro w1 m1 hok1 hupd1 hrows1
  refine ⟨_, rfl, ?_⟩
  refine JL.val (Run.assign rfl) ?_    -- s5 := assign t11
  refine JL.to (fun _ _ h => h) ?_
  have hls1 : Lst m1 n 0 (md n (es.take 0)) := by
    have hl : ∀ u, m1.lists.getD u [] = [] := fun u => by
      simp only [Gr.lists, hrows1, List.map_replicate, List.getD, List.getElem?_replicate]
      split <;> rfl
    refine ⟨by simp [hrows1], fun u x => ?_, fun u => by rw [hl]; simp⟩
    rw [hl]
    simp [adjOf, md]
  refine J.seq ?_
  refine J.seq ?_
  refine J.region ?_    -- region 2
  refine JL.val (Run.move rfl) ?_    -- s12 := move t1
  refine JL.val (Run.len Yba.underlying22 rfl) ?_    -- s13 := builtin Builtin.len(t12) [22]
  refine JL.val (Run.move rfl) ?_    -- s14 := move c:0:i64
  refine JL.to (fun _ _ h => h) ?_
  refine J.block ?_    -- block 0
  refine J.loop (ι := Nat × Gr) (fun i => [(0, .int .i64 (n : Int)), (5, .pointer (some ⟨m1.b, 0, none⟩)), (12, .slice a es.length cap), (13, .int .i64 (es.length : Int)), (14, .int .i64 (i.1 : Int))])
    (fun i w' => i.1 ≤ es.length ∧ GrOk w' N i.2 ∧ Upd w w' (fun _ => False) i.2.foot ∧ i.2.b = m1.b ∧ Lst i.2 n (2 * i.1) (md n (es.take i.1)))
    (fun i => es.length - i.1) (0, m1) ⟨rfl, rfl, rfl, rfl, rfl, trivial⟩ ⟨by omega, hok1, hupd1, rfl, hls1⟩ ?_
  clear hok1 hupd1 hrows1 hls1
  rintro ⟨i, m⟩ w2 ⟨hi, hok, hupd, hmb, hls⟩
  simp only at hi hok hupd hmb hls
  rw [← hmb]
  refine J.seq ?_
  refine J.region ?_    -- region 3
  refine JL.val (Run.lss rfl rfl) ?_    -- s15 := lss t14 t13
  refine JL.to (fun _ _ h => h) ?_
  refine J.seq ?_
  refine J.cond rfl (fun hc2 => ?_) (fun hc2 => ?_)    -- if t15
  · have hil : i < es.length := by have := of_decide_eq_true hc2; omega
    clear hc2
    refine J.skipTo (fun _ _ h => h) ?_
    obtain ⟨⟨x, y⟩, he⟩ : ∃ e, es[i]? = some e := ⟨es[i], List.getElem?_eq_getElem hil⟩
    obtain ⟨hx, hy, b, o, rfl, hcx, hcy⟩ := hc i _ he
    simp only at hx hy hcx hcy
    have hcx2 := hupd.cell hcx (fun h => h)
    have hcy2 := hupd.cell hcy (fun h => h)
    refine J.seq ?_
    refine J.block ?_    -- block 1
    refine J.seq ?_
    refine J.region ?_    -- region 4
    refine JL.val (Run.index Yba.underlying22 c30 (by decide) rfl rfl hil) ?_    -- s16 := index 22 t12 [t14]
    refine JL.val (Run.loadA (cs := [.int .u8 (x : Int), .int .u8 (y : Int)]) ta30 rfl ?_) ?_    -- s17 := load 30 [t16]
    · intro j u hj
      match j, hj with
      | 0, hj => simp at hj; rw [← hj]; exact hcx2
      | 1, hj => simp at hj; rw [← hj]; exact hcy2
      | j + 2, hj => simp at hj
    refine JL.val (Run.alloc (l := [.int .u8 0, .int .u8 0]) z30 rfl) ?_    -- s7 := alloc 30
    refine JL.eff (Run.storeNew (cs := [.int .u8 (x : Int), .int .u8 (y : Int)]) c30 (by simp) rfl rfl (by simp [Value.oneCell']) rfl) ?_    -- sNone := store 30 [t7] := t17
    refine JL.to (fun _ _ h => h) ?_
    have hnew : Blk (w2.alloc (.cells [.int .u8 (x : Int), .int .u8 (y : Int)].toArray 30)) w2.heap.size 30 [.int .u8 (x : Int), .int .u8 (y : Int)] := Blk.new _ _ _
    have hok3 : GrOk (w2.alloc (.cells [.int .u8 (x : Int), .int .u8 (y : Int)].toArray 30)) N m := hok.alloc _
    have hupd3 := hupd.alloc (.cells [.int .u8 (x : Int), .int .u8 (y : Int)].toArray 30)
    generalize w2.alloc (.cells [.int .u8 (x : Int), .int .u8 (y : Int)].toArray 30) = w3 at *
    have htk : md n (es.take (i + 1)) = md n (es.take i) ++ [(x % n, y % n)] := by rw [take_snoc he]; simp [md]
    refine J.seq ?_
    refine J.region ?_    -- region 5
    refine JL.val (Run.indexArr Yba.underlying30 c5 (by decide) rfl rfl (by decide) (by decide)) ?_    -- s18 := index 30 t7 [c:0:i64]
    refine JL.val (Run.load t5 rfl (hnew.cell rfl)) ?_    -- s19 := load 5 [t18]
    refine JL.val (Run.conv64 Yba.underlying3 ⟨_, Yba.underlying5⟩ rfl (by omega) (by omega)) ?_    -- s20 := conv 5>3 t19
    refine JL.val (Run.move rfl) ?_    -- s21 := move t0
    refine JL.val (Run.remN (b := n) rfl rfl hn0) ?_    -- s22 := rem t20 t21
    refine JL.val (Run.assign rfl) ?_    -- s8 := assign t22
    refine JL.to (fun _ _ h => h) ?_
    refine J.seq ?_
    refine J.region ?_    -- region 6
    refine JL.val (Run.indexArr Yba.underlying30 c5 (by decide) rfl rfl (by decide) (by decide)) ?_    -- s23 := index 30 t7 [c:1:i64]
    refine JL.val (Run.load t5 rfl (hnew.cell rfl)) ?_    -- s24 := load 5 [t23]
    refine JL.val (Run.conv64 Yba.underlying3 ⟨_, Yba.underlying5⟩ rfl (by omega) (by omega)) ?_    -- s25 := conv 5>3 t24
    refine JL.val (Run.move rfl) ?_    -- s26 := move t0
    refine JL.val (Run.remN (b := n) rfl rfl hn0) ?_    -- s27 := rem t25 t26
    refine JL.val (Run.assign rfl) ?_    -- s9 := assign t27
    refine JL.to (fun _ _ h => h) ?_
    have hxn : x % n < n := Nat.mod_lt _ hn0
    have hyn : y % n < n := Nat.mod_lt _ hn0
    generalize x % n = xm at *
    generalize y % n = ym at *
    refine J.seq ?_
    refine J.region ?_    -- region 7
    refine JL.val (Run.move rfl) ?_    -- s28 := move t8
    refine JL.val (Run.move rfl) ?_    -- s29 := move t9
    refine JL.val (Run.neq rfl rfl) ?_    -- s30 := neq t28 t29
    refine JL.to (fun _ _ h => h) ?_
    refine J.cond rfl (fun hc2 => ?_) (fun hc2 => ?_)    -- if t30
    · have hne : xm ≠ ym := fun e => by simp [e] at hc2
      refine J.region ?_    -- region 8
      refine JL.val (Run.move rfl) ?_    -- s31 := move t5
      refine JL.val (Run.move rfl) ?_    -- s32 := move t8
      refine JL.val (Run.move rfl) ?_    -- s33 := move t9
      refine JL.call rfl Yba.func9 rfl rfl ?_    -- s34 := CALL f9(t31, t32, t33) [27,3,3]
      have hrl := hls.rows
      refine link_calls w3 N xm ym m hok3 (Nat.le_trans hN hupd3.size) (by omega) (by omega) (fun r hr => by have := hls.row r hr; omega) _ ?_
      intro w4 m4 hok4 hupd4 hmb4 hls4
      refine ⟨_, rfl, ?_⟩
      refine JL.to (fun _ _ h => h) ?_
      refine J.region ?_    -- region 9
      refine JL.val (Run.add (c := ((i + 1 : Nat) : Int)) rfl rfl (by omega) (by omega) (by omega)) ?_    -- s35 := add t14 c:1:i64
      refine JL.val (Run.move rfl) ?_    -- s14 := move t35
      refine JL.nil fun a ha => ⟨(i + 1, m4), by simp only; omega, ha.sub ⟨rfl, rfl, rfl, rfl, rfl, trivial⟩, by simp only; omega, hok4, hupd3.trans hupd4, hmb4, ?_⟩
      show Lst m4 n (2 * i + 2) (md n (es.take (i + 1)))
      rw [htk]
      exact hls.link (xm, ym) hxn hyn hne hls4
    · have hne : xm = ym := by
        have : (xm : Int) = ym := by simpa using hc2
        omega
      refine J.skipTo (fun _ _ h => h) ?_
      refine J.region ?_    -- region 9
      refine JL.val (Run.add (c := ((i + 1 : Nat) : Int)) rfl rfl (by omega) (by omega) (by omega)) ?_    -- s35 := add t14 c:1:i64
      refine JL.val (Run.move rfl) ?_    -- s14 := move t35
      refine JL.nil fun a ha => ⟨(i + 1, m), by simp only; omega, ha.sub ⟨rfl, rfl, rfl, rfl, rfl, trivial⟩, by simp only; omega, hok3, hupd3, rfl, ?_⟩
      show Lst m n (2 * i + 2) (md n (es.take (i + 1)))
      rw [htk]
      exact hls.skip (xm, ym) hne
  · have hil : i = es.length := by have := of_decide_eq_false hc2; omega
    subst hil
    rw [List.take_length] at hls
    refine J.exitTo (fun _ _ h => h) ?_    -- exit 0
    refine J.seq ?_
    refine J.region ?_    -- region 10
    refine JL.val (Run.move rfl) ?_    -- s36 := move t5
    refine JL.call rfl Yba.func10 rfl rfl ?_    -- s37 := CALL f10(t36) [27]
    refine settle_calls w2 N m hok (Nat.le_trans hN hupd.size) (fun r hr => by have := hls.row r hr; omega) (by have := hls.rows; omega) _ ?_
    intro w3 m3 hok3 hupd3 hmb3 hrl3 hls3
    refine ⟨_, rfl, ?_⟩
    refine JL.to (fun _ _ h => h) ?_
    refine J.seq ?_
    refine J.region ?_    -- region 11
    refine JL.val (Run.move rfl) ?_    -- s38 := move t5
    refine JL.val (Run.assign rfl) ?_    -- s4 := assign t38
    refine JL.to (fun _ _ h => h) ?_
    refine J.ret1 Yba.f6 R (fun _ _ h => h) rfl rfl ?_
    rw [← hmb3]
    refine hR w3 m3 hok3 (hupd.trans hupd3) ⟨by rw [hrl3]; exact hls.rows, fun u x => ?_, fun u => ?_⟩
    · rw [hls3, settleRow, compact_mem, sorted_mem]
      exact hls.mem u x
    · rw [hls3]
      have h1 := hls.len u
      have h2 := compact_len (sorted (m.lists.getD u []))
      rw [sorted_len] at h2
      show (Lib.compact (sorted (m.lists.getD u []))).length ≤ 3000
      omega
end Go.Proofs.Ybulkpka
