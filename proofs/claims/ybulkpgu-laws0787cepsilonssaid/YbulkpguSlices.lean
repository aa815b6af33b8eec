/-
  slices.Equal where the two are equal; slices.Clone; an append that fits.
-/
import Derived.Test.YbulkpguSlot
namespace Go.Proofs.Ybulkpgu
open Go.Fw Go.RowKit
attribute [local simp] Go.Fw.stl_size Go.Fw.sto_size

abbrev i32s (xs : List Int) : List Value := xs.map fun x => .int .i32 x

theorem append_fits {P : Program} {w : World} {T E bytes g len cap m c : Nat} {cur news : List Value} {ad : Addr} (hE : Elt P T E 1 bytes) (hb : Blk w g E cur) (hl : cur.length = cap) (hfit : len + m ≤ cap)
    (hm : news.length = m) (hnews : ∀ j u, news[j]? = some u → w.cell? (ad.add j) = some u) (h1 : ∀ u ∈ news, u.oneCell' = true) :
    ∀ ty, (Builtin.append_ #[T, T] ty #[.slice (some ⟨g, 0, none⟩) len cap, .slice (some ad) m c]).run P w = .ok (.slice (some ⟨g, 0, none⟩) (len + m) cap) (stl w g (cur.take len ++ news ++ cur.drop (len + m))) := by
  intro ty
  obtain ⟨i, z, hT, hi, hz, hs, hby, hzs, hp⟩ := hE.info
  have hld := run_loadCells_list (P := P) w ad news hnews
  have hst := run_storeCells_at P g len E news 0 cur.toArray w hb (by simp; omega) h1
  simp only [Nat.add_zero, hm] at hst
  rw [hm] at hld
  simp [Builtin.append_, run_underlying hT, sizeOf, typeInfo, hi, hs, Builtin.lenOf, Builtin.firstCells, hfit, hld, addr_add, hst, Fw.stl]

set_option maxRecDepth 100000
theorem equal_calls {w0 w : World} {h : Hn} {n n' : Nat × Nat} {v v' : Value} {zs : List Int} (hp : Hp w0 w h) (hx : Sl h n 21 1 v zs.length (i32s zs)) (hy : Sl h n' 21 1 v' zs.length (i32s zs)) (hb : zs.length ≤ 1000000000)
    (R : Ending → World → Prop) (hR : ∀ w', Hp w0 w' h → R (.returned (.bool true)) w') : Calls Yba.prog 21 #[v, v'] w R := by
  obtain ⟨a, c, hv⟩ := hx.slice
  obtain ⟨a', c', hv'⟩ := hy.slice
  subst hv
  subst hv'
  refine calls (args := [_, _]) (m := 2) Yba.func21 rfl rfl rfl (by decide) ?_
  refine J.seq ?_
  refine J.region ?_    -- region 0
  refine JL.val (Run.assign rfl) ?_
  refine JL.to (fun _ _ h => h) ?_
  refine J.seq ?_
  refine J.seq ?_
  refine J.region ?_    -- region 1
  refine JL.val (Run.move rfl) ?_
  refine JL.val (Run.len Yba.underlying22 rfl) ?_
  refine JL.val (Run.move rfl) ?_
  refine JL.val (Run.len Yba.underlying22 rfl) ?_
  refine JL.val (Run.neq rfl rfl) ?_
  refine JL.to (fun _ _ h => h) ?_
  refine J.condF rfl (by simp) ?_
  refine J.skipTo (fun _ _ h => h) ?_
  refine J.seq ?_
  refine J.seq ?_
  refine J.region ?_    -- region 3
  refine JL.val (Run.move rfl) ?_
  refine JL.val (Run.len Yba.underlying22 rfl) ?_
  refine JL.val (Run.move rfl) ?_
  refine JL.to (fun _ _ h => h) ?_
  refine J.block ?_
  refine J.loop (ι := Nat) (fun i => [(0, .slice a zs.length c), (1, .slice a' zs.length c'), (12, .int .i64 (zs.length : Int)), (13, .int .i64 (i : Int))])
    (fun i w' => i ≤ zs.length ∧ Hp w0 w' h) (fun i => zs.length - i) 0 ⟨rfl, rfl, rfl, rfl, trivial⟩ ⟨by omega, hp⟩ ?_
  clear hp
  rintro i w1 ⟨hi, hp⟩
  refine J.seq ?_
  refine J.region ?_    -- region 4
  refine JL.val (Run.lss rfl rfl) ?_
  refine JL.to (fun _ _ h => h) ?_
  refine J.seq ?_
  refine J.cond rfl (fun hc => ?_) (fun hc => ?_)
  · have hil : i < zs.length := by have := of_decide_eq_true hc; omega
    obtain ⟨z, hz⟩ : ∃ z, zs[i]? = some z := ⟨zs[i], List.getElem?_eq_getElem hil⟩
    have hz' : (i32s zs)[i]? = some (.int .i32 z) := by simp [hz]
    obtain ⟨g, q, hv, hcell⟩ := hx.cell hp.drew hz'
    obtain ⟨g', q', hv', hcell'⟩ := hy.cell hp.drew hz'
    cases hv
    cases hv'
    refine J.skipTo (fun _ _ h => h) ?_
    refine J.seq ?_
    refine J.block ?_
    refine J.seq ?_
    refine J.region ?_    -- region 5
    refine JL.val (Run.move rfl) ?_
    refine JL.val (Run.assign rfl) ?_
    refine JL.to (fun _ _ h => h) ?_
    refine J.seq ?_
    -- region 6 draws
    have hS : w1.drew.cell? ⟨g, i, none⟩ = some (.int .i32 z) ∧ w1.drew.cell? ⟨g', i, none⟩ = some (.int .i32 z) := ⟨hcell, hcell'⟩
    refine J.draw (fun x => x.cell? ⟨g, i, none⟩ = some (.int .i32 z) ∧ x.cell? ⟨g', i, none⟩ = some (.int .i32 z)) 9 [(0, true), (1, true), (2, true), (3, true), (4, true), (5, true), (6, true), (7, true), (8, true)] (by kernel_rfl) (by kernel_rfl) ?_
    refine JS.take (i := 0) rfl hS (fun w' hw' => Run.move rfl) ?_
    refine JS.take (i := 1) rfl hS (fun w' hw' => Run.move rfl) ?_
    refine JS.take (i := 2) rfl hS (fun w' hw' => Run.index Yba.underlying22 c21 (by decide) rfl rfl hil) ?_
    refine JS.take (i := 3) rfl hS (fun w' hw' => Run.load t21 rfl (by rw [Nat.mul_one, Nat.zero_add]; exact hw'.1)) ?_
    refine JS.take (i := 4) rfl hS (fun w' hw' => Run.move rfl) ?_
    refine JS.take (i := 5) rfl hS (fun w' hw' => Run.move rfl) ?_
    refine JS.take (i := 6) rfl hS (fun w' hw' => Run.index Yba.underlying22 c21 (by decide) rfl rfl hil) ?_
    refine JS.take (i := 7) rfl hS (fun w' hw' => Run.load t21 rfl (by rw [Nat.mul_one, Nat.zero_add]; exact hw'.2)) ?_
    refine JS.take (i := 8) rfl hS (fun w' hw' => Run.neq rfl rfl) ?_
    refine JS.to (fun _ _ h => h) ?_
    refine J.condF rfl (by simp) ?_
    refine J.skipTo (fun _ _ h => h) ?_
    refine J.region ?_    -- region 8
    refine JL.val (Run.add (c := ((i + 1 : Nat) : Int)) rfl rfl (by omega) (by omega) (by omega)) ?_
    refine JL.val (Run.move rfl) ?_
    refine JL.nil fun a ha => ⟨i + 1, by omega, ha.sub ⟨rfl, rfl, rfl, rfl, trivial⟩, by omega, hp.drew⟩
  · refine J.exitTo (fun _ _ h => h) ?_
    refine J.seq ?_
    refine J.region ?_    -- region 9
    refine JL.val (Run.assign rfl) ?_
    refine JL.to (fun _ _ h => h) ?_
    refine J.ret1 Yba.f21 R (fun _ _ h => h) rfl rfl ?_
    exact hR _ hp

theorem Run.neqPair {e : List (Nat × Value)} {w : World} {dst : Option Nat} {ty U : TypeId} {pos : String} {af : Array Edge} {g : Option (Nat × Bool)} {X Y : Operand} {x y : Int} (hx : ev e X = some (pv x y)) (hy : ev e Y = some (pv x y)) :
    Run Yba.prog e ⟨dst, .binOp .neq 54 X Y U, ty, pos, af, g⟩ w (.ok (.value (.bool false)) w) := by
  intro ρ hρ
  have hg := run_eqGuard_agg (P := Yba.prog) w .neq 54 X Y #[.int .i32 x, .int .i32 y] #[.int .i32 x, .int .i32 y] (by kernel_rfl)
  have hn := run_neq_struct (P := Yba.prog) w 54 #[.int .i32 x, .int .i32 y] #[.int .i32 x, .int .i32 y]
  have he := equalIn54 (w := w) (a := x) (b := y) (c := x) (d := y)
  rw [he] at hn
  simp [execOp, hρ _ _ hx, hρ _ _ hy, hg, hn]

theorem pairs_get (l : List (Int × Int)) : ∀ (i : Nat) (p : Int × Int), l[i]? = some p → (pairs l)[i * 2]? = some (.int .i32 p.1) ∧ (pairs l)[i * 2 + 1]? = some (.int .i32 p.2) := by
  induction l with
  | nil => intro i p h; simp at h
  | cons q l ih =>
    intro i p h
    have e : pairs (q :: l) = .int .i32 q.1 :: .int .i32 q.2 :: pairs l := rfl
    cases i with
    | zero =>
      simp at h
      subst h
      rw [e]
      exact ⟨rfl, rfl⟩
    | succ i =>
      rw [e, show (i + 1) * 2 = i * 2 + 1 + 1 by omega]
      simpa using ih i p (by simpa using h)

theorem equalP_calls {w0 w : World} {h : Hn} {n n' : Nat × Nat} {v v' : Value} {zs : List (Int × Int)} (hp : Hp w0 w h) (hx : Sl h n 54 2 v zs.length (pairs zs)) (hy : Sl h n' 54 2 v' zs.length (pairs zs)) (hb : zs.length ≤ 1000000000)
    (R : Ending → World → Prop) (hR : ∀ w', Hp w0 w' h → R (.returned (.bool true)) w') : Calls Yba.prog 22 #[v, v'] w R := by
  obtain ⟨a, c, hv⟩ := hx.slice
  obtain ⟨a', c', hv'⟩ := hy.slice
  subst hv
  subst hv'
  refine calls (args := [_, _]) (m := 2) Yba.func22 rfl rfl rfl (by decide) ?_
  refine J.seq ?_
  refine J.region ?_    -- region 0
  refine JL.val (Run.assign rfl) ?_
  refine JL.to (fun _ _ h => h) ?_
  refine J.seq ?_
  refine J.seq ?_
  refine J.region ?_    -- region 1
  refine JL.val (Run.move rfl) ?_
  refine JL.val (Run.len Yba.underlying58 rfl) ?_
  refine JL.val (Run.move rfl) ?_
  refine JL.val (Run.len Yba.underlying58 rfl) ?_
  refine JL.val (Run.neq rfl rfl) ?_
  refine JL.to (fun _ _ h => h) ?_
  refine J.condF rfl (by simp) ?_
  refine J.skipTo (fun _ _ h => h) ?_
  refine J.seq ?_
  refine J.seq ?_
  refine J.region ?_    -- region 3
  refine JL.val (Run.move rfl) ?_
  refine JL.val (Run.len Yba.underlying58 rfl) ?_
  refine JL.val (Run.move rfl) ?_
  refine JL.to (fun _ _ h => h) ?_
  refine J.block ?_
  refine J.loop (ι := Nat) (fun i => [(0, .slice a zs.length c), (1, .slice a' zs.length c'), (12, .int .i64 (zs.length : Int)), (13, .int .i64 (i : Int))])
    (fun i w' => i ≤ zs.length ∧ Hp w0 w' h) (fun i => zs.length - i) 0 ⟨rfl, rfl, rfl, rfl, trivial⟩ ⟨by omega, hp⟩ ?_
  clear hp
  rintro i w1 ⟨hi, hp⟩
  refine J.seq ?_
  refine J.region ?_    -- region 4
  refine JL.val (Run.lss rfl rfl) ?_
  refine JL.to (fun _ _ h => h) ?_
  refine J.seq ?_
  refine J.cond rfl (fun hc => ?_) (fun hc => ?_)
  · have hil : i < zs.length := by have := of_decide_eq_true hc; omega
    obtain ⟨⟨p1, p2⟩, hz⟩ : ∃ z, zs[i]? = some z := ⟨zs[i], List.getElem?_eq_getElem hil⟩
    obtain ⟨hz1, hz2⟩ := pairs_get zs i _ hz
    simp only at hz1 hz2
    obtain ⟨g, q, hv, hc1⟩ := hx.cell hp.drew hz1
    obtain ⟨g', q', hv', hc1'⟩ := hy.cell hp.drew hz1
    cases hv
    cases hv'
    obtain ⟨g2, q2, hv, hc2⟩ := hx.cell hp.drew hz2
    obtain ⟨g2', q2', hv', hc2'⟩ := hy.cell hp.drew hz2
    cases hv
    cases hv'
    refine J.skipTo (fun _ _ h => h) ?_
    refine J.seq ?_
    refine J.block ?_
    refine J.seq ?_
    refine J.region ?_    -- region 5
    refine JL.val (Run.move rfl) ?_
    refine JL.val (Run.assign rfl) ?_
    refine JL.to (fun _ _ h => h) ?_
    refine J.seq ?_
    -- region 6 draws
    have hS : (w1.drew.cell? ⟨g, i * 2, none⟩ = some (.int .i32 p1) ∧ w1.drew.cell? ⟨g, i * 2 + 1, none⟩ = some (.int .i32 p2)) ∧ (w1.drew.cell? ⟨g', i * 2, none⟩ = some (.int .i32 p1) ∧ w1.drew.cell? ⟨g', i * 2 + 1, none⟩ = some (.int .i32 p2)) := ⟨⟨hc1, hc2⟩, hc1', hc2'⟩
    have hld : ∀ (x : World) (b : Nat), (x.cell? ⟨b, i * 2, none⟩ = some (.int .i32 p1) ∧ x.cell? ⟨b, i * 2 + 1, none⟩ = some (.int .i32 p2)) → ∀ j u, [Value.int .i32 p1, .int .i32 p2][j]? = some u → x.cell? ⟨b, 0 + i * 2 + j, none⟩ = some u := fun x b hx j u hj => by
      rw [Nat.zero_add]
      match j, hj with
      | 0, hj => simp at hj; rw [← hj]; exact hx.1
      | 1, hj => simp at hj; rw [← hj]; exact hx.2
      | j + 2, hj => simp at hj
    refine J.draw (fun x => (x.cell? ⟨g, i * 2, none⟩ = some (.int .i32 p1) ∧ x.cell? ⟨g, i * 2 + 1, none⟩ = some (.int .i32 p2)) ∧ (x.cell? ⟨g', i * 2, none⟩ = some (.int .i32 p1) ∧ x.cell? ⟨g', i * 2 + 1, none⟩ = some (.int .i32 p2))) 9 [(0, true), (1, true), (2, true), (3, true), (4, true), (5, true), (6, true), (7, true), (8, true)] (by kernel_rfl) (by kernel_rfl) ?_
    refine JS.take (i := 0) rfl hS (fun w' hw' => Run.move rfl) ?_
    refine JS.take (i := 1) rfl hS (fun w' hw' => Run.move rfl) ?_
    refine JS.take (i := 2) rfl hS (fun w' hw' => Run.index Yba.underlying58 c54 (by decide) rfl rfl hil) ?_
    refine JS.take (i := 3) rfl hS (fun w' hw' => Run.loadA (cs := [.int .i32 p1, .int .i32 p2]) ta54 rfl (hld w' g hw'.1)) ?_
    refine JS.take (i := 4) rfl hS (fun w' hw' => Run.move rfl) ?_
    refine JS.take (i := 5) rfl hS (fun w' hw' => Run.move rfl) ?_
    refine JS.take (i := 6) rfl hS (fun w' hw' => Run.index Yba.underlying58 c54 (by decide) rfl rfl hil) ?_
    refine JS.take (i := 7) rfl hS (fun w' hw' => Run.loadA (cs := [.int .i32 p1, .int .i32 p2]) ta54 rfl (hld w' g' hw'.2)) ?_
    refine JS.take (i := 8) rfl hS (fun w' hw' => Run.neqPair rfl rfl) ?_
    refine JS.to (fun _ _ h => h) ?_
    refine J.condF rfl rfl ?_
    refine J.skipTo (fun _ _ h => h) ?_
    refine J.region ?_    -- region 8
    refine JL.val (Run.add (c := ((i + 1 : Nat) : Int)) rfl rfl (by omega) (by omega) (by omega)) ?_
    refine JL.val (Run.move rfl) ?_
    refine JL.nil fun a ha => ⟨i + 1, by omega, ha.sub ⟨rfl, rfl, rfl, rfl, trivial⟩, by omega, hp.drew⟩
  · refine J.exitTo (fun _ _ h => h) ?_
    refine J.seq ?_
    refine J.region ?_    -- region 9
    refine JL.val (Run.assign rfl) ?_
    refine JL.to (fun _ _ h => h) ?_
    refine J.ret1 Yba.f22 R (fun _ _ h => h) rfl rfl ?_
    exact hR _ hp
end Go.Proofs.Ybulkpgu
