/-
  (*merge).pairEpsilons.
-/
import Derived.Test.YbulkpguPe
namespace Go.Proofs.Ybulkpgu
open Go.Fw Go.RowKit
attribute [local simp] Go.Fw.stl_size Go.Fw.sto_size

theorem Mg.setStars {w0 w : World} {h : Hn} {mb va vb : Nat} {l : List ((Int × Int) × Int)} {rv av ev sv sv' : Value} (hm : Mg h mb va vb l rv av ev sv) (hp : Hp w0 w h) :
    ∃ cs, Blk w mb 60 cs ∧ cs.length = 9 ∧ Hp w0 (Fw.stl w mb (cs.set 8 sv')) (hup h (10, 0) (some (mb, cellsO (cs.set 8 sv') 60))) ∧ Mg (hup h (10, 0) (some (mb, cellsO (cs.set 8 sv') 60))) mb va vb l rv av ev sv' := by
  obtain ⟨pm, qv, h1, h2, h3⟩ := hm.ex
  exact ⟨_, hp.blk h1, rfl, hp.stl h1 _, ⟨pm, qv, hup_same, by rw [hup_ne (by simp)]; exact h2, h3.hup (by simp)⟩⟩

theorem Mg.cells {w0 w : World} {h : Hn} {mb va vb : Nat} {l : List ((Int × Int) × Int)} {rv av ev sv : Value} (hm : Mg h mb va vb l rv av ev sv) (hp : Hp w0 w h) :
    w.cell? ⟨mb, 0, none⟩ = some (ptr va) ∧ w.cell? ⟨mb, 1, none⟩ = some (ptr vb) ∧ w.cell? ⟨mb, 4, none⟩ = some rv ∧ w.cell? ⟨mb, 5, none⟩ = some av ∧ w.cell? ⟨mb, 7, none⟩ = some ev ∧ w.cell? ⟨mb, 8, none⟩ = some sv := by
  obtain ⟨pm, qv, h1, h2, h3⟩ := hm.ex
  exact ⟨hp.cell h1 rfl, hp.cell h1 rfl, hp.cell h1 rfl, hp.cell h1 rfl, hp.cell h1 rfl, hp.cell h1 rfl⟩

theorem take_get {α : Type} {xs : List α} {i : Nat} {x : α} (h : xs[i]? = some x) : xs.take (i + 1) = xs.take i ++ [x] := by
  rw [List.take_add_one, h]
  rfl

theorem nodup_not {xs : List Nat} (hn : xs.Nodup) {i x : Nat} (h : xs[i]? = some x) : x ∉ xs.take i := by
  intro hm
  obtain ⟨j, hj⟩ := List.getElem?_of_mem hm
  have hjl : j < i := by
    have := (List.getElem?_eq_some_iff.1 hj).1
    simp at this
    omega
  rw [List.getElem?_take_of_lt hjl] at hj
  have h1 := (List.getElem?_eq_some_iff.1 hj)
  have h2 := (List.getElem?_eq_some_iff.1 h)
  have h3 : xs[j]'h1.1 = xs[i]'h2.1 := h1.2.trans h2.2.symm
  have := (List.getElem_inj hn).1 h3
  omega

theorem app_get {stsA : List Sv} {k t : Nat} {s : Sv} (h : stsA[t]? = some s) : (stsA ++ List.replicate k sv0)[t]? = some s := by
  rw [List.getElem?_append_left (List.getElem?_eq_some_iff.1 h).1]
  exact h

def FrP (h h' : Hn) : Prop := ∀ n : Nat × Nat, (3 ≤ n.1 ∧ n.1 ≤ 6) ∨ n.1 = 13 ∨ n.1 = 14 ∨ (17 ≤ n.1 ∧ n.1 ≤ 97) → h' n = h n
theorem FrP.refl (h : Hn) : FrP h h := fun _ _ => rfl
theorem FrP.trans {h h' h'' : Hn} (a : FrP h h') (b : FrP h' h'') : FrP h h'' := fun n hn => (b n hn).trans (a n hn)
theorem FrN.toP {h h' : Hn} (a : FrN h h') : FrP h h' := fun n hn => a n (by omega)
theorem FrP.hup {h h' : Hn} (a : FrP h h') {k : Nat × Nat} (hk : k.1 ≤ 2 ∨ (10 ≤ k.1 ∧ k.1 ≤ 12) ∨ k.1 = 15 ∨ k.1 = 16 ∨ 98 ≤ k.1) (x : Option (Nat × Obj)) : FrP h (Go.Fw.hup h' k x) := fun n hn => by
  rw [hup_ne (fun e => by subst e; omega)]
  exact a n hn

def FrQ (h h' : Hn) : Prop := ∀ n : Nat × Nat, (3 ≤ n.1 ∧ n.1 ≤ 6) ∨ n.1 = 13 ∨ n.1 = 14 ∨ (17 ≤ n.1 ∧ n.1 ≤ 96) → h' n = h n

set_option maxRecDepth 100000
theorem pair_calls {w0 w : World} {h : Hn} {mb va vb : Nat} {stsA stsB : List Sv} {rv av ev : Value} (px s : Int) (xv yv : Value) (xs ys : List Nat) (ind : Int)
    (hp : Hp w0 w h) (hA : LsE h 1 va stsA) (hBl : LsE h 4 vb stsB) (hm : Mg h mb va vb [] rv av ev (.slice none 0 0)) (hy : Sl h (23, 0) 21 1 yv ys.length (i32s (nI ys))) (hx : RdH h (20, 0) xv xs.length (i32s (nI xs)))
    (hnA : stsA.length ≤ 1000) (hyl : ys.length ≤ 300) (hxl : xs.length ≤ 300) (hyn : ys.Nodup) (hxn : xs.Nodup) (hyb : ∀ u ∈ ys, u < stsB.length) (hxa : ∀ t ∈ xs, ∃ st, stsA[t]? = some st ∧ st.star = true ∧ st.indeg = ind) (hind : 0 ≤ ind ∧ ind ≤ 2)
    (R : Ending → World → Prop)
    (hR : ∀ w' h' epsv sv', PE w0 w' h' mb va vb stsA rv av ev sv' (pfin stsA.length (ys.filter fun u => !starAt stsB u) (ys.filter (starAt stsB)) xs (decide (px = s) && decide ((ys.filter (starAt stsB)).length = 1) && decide (ind = 2))) epsv → FrQ h h' →
      R (.returned (.tuple #[epsv, .int .i64 (((pfin stsA.length (ys.filter fun u => !starAt stsB u) (ys.filter (starAt stsB)) xs (decide (px = s) && decide ((ys.filter (starAt stsB)).length = 1) && decide (ind = 2))).exp.length : Int) - ((ys.filter fun u => !starAt stsB u).length : Int))])) w') :
    Calls Yba.prog 29 #[ptr mb, .slice none 0 0, pv px 0, .int .i32 s, xv, yv] w R := by
  obtain ⟨ya, yc, hyv⟩ := hy.slice
  have hx0 := hx
  obtain ⟨xa, xc, hxv, _⟩ := hx
  subst hyv
  subst hxv
  generalize hyp : (ys.filter fun u => !starAt stsB u) = yp at *
  generalize hysd : ys.filter (starAt stsB) = yst at *
  have hypl : yp.length ≤ 300 := by rw [← hyp]; have := List.length_filter_le (fun u => !starAt stsB u) ys; omega
  have hystl : yst.length ≤ 300 := by rw [← hysd]; have := List.length_filter_le (starAt stsB) ys; omega
  have hystn : yst.Nodup := by rw [← hysd]; exact List.Pairwise.filter _ hyn
  have hypst : ∀ u ∈ yst, u ∉ yp := fun u hu hu' => by
    rw [← hysd] at hu
    rw [← hyp] at hu'
    have h1 := (List.mem_filter.1 hu).2
    have h2 := (List.mem_filter.1 hu').2
    rw [h1] at h2
    cases h2
  refine calls (args := [_, _, _, _, _, _]) (m := 6) Yba.func29 rfl rfl rfl (by decide) ?_
  refine J.seq ?_
  refine J.region ?_    -- region 0
  refine JL.val (Run.box (l := [.int .i32 px, .int .i32 0]) rfl rfl) ?_    -- s8 := box 54 t2
  refine JL.val (Run.assign rfl) ?_
  refine JL.val (Run.assign rfl) ?_
  refine JL.to (fun _ _ h => h) ?_
  -- the pair's own block bears the name (97, 1)
  have hp1 := hp.new (97, 1) (cellsO [.int .i32 px, .int .i32 0] 54)
  have hk1 : ∀ n : Nat × Nat, n ≠ (97, 1) → hup h (97, 1) (some (w.heap.size, cellsO [.int .i32 px, .int .i32 0] 54)) n = h n := fun n hn => hup_ne hn
  have hbx : hup h (97, 1) (some (w.heap.size, cellsO [.int .i32 px, .int .i32 0] 54)) (97, 1) = some (w.heap.size, cellsO [.int .i32 px, .int .i32 0] 54) := hup_same
  generalize hup h (97, 1) (some (w.heap.size, cellsO [.int .i32 px, .int .i32 0] 54)) = h1 at *
  generalize w.alloc (cellsO [.int .i32 px, .int .i32 0] 54) = w1 at *
  generalize w.heap.size = bx at *
  have hA1 : LsE h1 1 va stsA := hA.keep fun n hn => hk1 n (fun e => by subst e; simp at hn)
  have hB1 : LsE h1 4 vb stsB := hBl.keep fun n hn => hk1 n (fun e => by subst e; simp at hn)
  have hm1 : Mg h1 mb va vb [] rv av ev (.slice none 0 0) := hm.keep fun n hn => hk1 n (fun e => by subst e; simp at hn)
  have hy1 : Sl h1 (23, 0) 21 1 (.slice ya ys.length yc) ys.length (i32s (nI ys)) := hy.keep (hk1 _ (by simp))
  have hx1 : RdH h1 (20, 0) (.slice xa xs.length xc) xs.length (i32s (nI xs)) := hx0.keep (hk1 _ (by simp))
  have hpe1 : PE w0 w1 h1 mb va vb stsA rv av ev (.slice none 0 0) ⟨stsA.length, [], []⟩ (.slice none 0 0) := ⟨hp1, by simpa using hA1, hm1, Sl.nil _ _ _ _, Nat.le_refl _⟩
  refine J.seq ?_
  refine J.region ?_    -- region 1
  refine JL.val (Run.move rfl) ?_
  refine JL.val (Run.nil rfl) ?_
  refine JL.val (Run.field fl60_8 rfl) ?_
  refine JL.val (Run.load t22 rfl (hm1.cells hp1).2.2.2.2.2) ?_
  refine JL.val (Run.sliceHi (h := 0) Yba.underlying22 c21 (by decide) rfl rfl (by omega)) ?_
  refine JL.val (Run.assign rfl) ?_
  refine JL.to (fun _ _ h => h) ?_
  refine J.seq ?_
  refine J.seq ?_
  refine J.region ?_    -- region 2
  refine JL.val (Run.move rfl) ?_
  refine JL.val (Run.len Yba.underlying22 rfl) ?_
  refine JL.val (Run.move rfl) ?_
  refine JL.to (fun _ _ h => h) ?_
  refine J.block ?_
  refine J.loop (ι := Nat × Hn × Value × Value)
    (fun i => [(0, ptr mb), (1, i.2.2.1), (3, .int .i32 s), (4, .slice xa xs.length xc), (8, ptr bx), (14, i.2.2.2), (31, .slice ya ys.length yc), (32, .int .i64 (ys.length : Int)), (33, .int .i64 (i.1 : Int))])
    (fun i w' => i.1 ≤ ys.length ∧ PE w0 w' i.2.1 mb va vb stsA rv av ev (.slice none 0 0) (prun false ⟨stsA.length, [], []⟩ (alone ((ys.take i.1).filter fun u => !starAt stsB u))) i.2.2.1 ∧
      Sl i.2.1 (16, 0) 21 1 i.2.2.2 ((ys.take i.1).filter (starAt stsB)).length (i32s (nI ((ys.take i.1).filter (starAt stsB)))) ∧ FrP h1 i.2.1)
    (fun i => ys.length - i.1) (0, h1, .slice none 0 0, .slice none 0 0) ⟨rfl, rfl, rfl, rfl, rfl, rfl, rfl, rfl, rfl, trivial⟩ ⟨by omega, hpe1, Sl.nil _ _ _ _, FrP.refl _⟩ ?_
  clear hpe1 hp1 hp hA hBl hm hy hx0
  rintro ⟨j, h2, epsv, sv2⟩ w2 ⟨hj, hpe, hsl, hf2⟩
  simp only at hj hpe hsl hf2 ⊢
  have hB2 : LsE h2 4 vb stsB := hB1.keep fun n hn => hf2 n (by omega)
  have hy2 : Sl h2 (23, 0) 21 1 (.slice ya ys.length yc) ys.length (i32s (nI ys)) := hy1.keep (hf2 _ (by simp))
  refine J.seq ?_
  refine J.region ?_    -- region 3
  refine JL.val (Run.lss rfl rfl) ?_
  refine JL.to (fun _ _ h => h) ?_
  refine J.seq ?_
  refine J.cond rfl (fun hc => ?_) (fun hc => ?_)
  · have hjl : j < ys.length := by have := of_decide_eq_true hc; omega
    clear hc
    obtain ⟨u, hu⟩ : ∃ u, ys[j]? = some u := ⟨ys[j], List.getElem?_eq_getElem hjl⟩
    have hub := hyb u (List.mem_of_getElem? hu)
    obtain ⟨st, hst⟩ : ∃ st, stsB[u]? = some st := ⟨stsB[u], List.getElem?_eq_getElem hub⟩
    have hsa : starAt stsB u = st.star := starAt_of hst
    obtain ⟨gy, cy, hyv, hcell⟩ := hy2.cell hpe.hp (i := j) (u := .int .i32 (u : Int)) (by simp [hu])
    cases hyv
    have hfl1 : ((ys.take j).filter fun u => !starAt stsB u).length ≤ j := by have := List.length_filter_le (fun u => !starAt stsB u) (ys.take j); simp at this; omega
    have hfl2 : ((ys.take j).filter (starAt stsB)).length ≤ j := by have := List.length_filter_le (starAt stsB) (ys.take j); simp at this; omega
    refine J.skipTo (fun _ _ h => h) ?_
    refine J.seq ?_
    refine J.block ?_
    refine J.seq ?_
    refine J.region ?_    -- region 4
    refine JL.val (Run.index Yba.underlying22 c21 (by decide) rfl rfl hjl) ?_
    refine JL.val (Run.load t21 rfl (by rw [Nat.mul_one, Nat.zero_add]; exact hcell)) ?_
    refine JL.val (Run.assign rfl) ?_
    refine JL.to (fun _ _ h => h) ?_
    refine J.seq ?_
    refine J.region ?_    -- region 5
    refine JL.val (Run.move rfl) ?_
    refine JL.val (Run.nil rfl) ?_
    refine JL.val (Run.field fl60_1 rfl) ?_
    refine JL.val (Run.load t56 rfl (hpe.mg.cells hpe.hp).2.1) ?_
    refine JL.val (Run.move rfl) ?_
    refine JL.call rfl Yba.func45 rfl rfl ?_
    refine loops_calls hpe.hp hB2 hst _ ?_
    intro w3 hp3
    refine ⟨_, rfl, ?_⟩
    have hpe3 : PE w0 w3 h2 mb va vb stsA rv av ev (.slice none 0 0) (prun false ⟨stsA.length, [], []⟩ (alone ((ys.take j).filter fun u => !starAt stsB u))) epsv := ⟨hp3, hpe.le, hpe.mg, hpe.sl, hpe.nx⟩
    cases hstar : st.star with
    | true =>
      rw [hstar] at hsa
      refine JL.val ((Run.gtr rfl rfl).to (v' := .bool true) (by simp)) ?_
      refine JL.to (fun _ _ h => h) ?_
      refine J.condT rfl rfl ?_
      have hlit := hp3.alloc (.cells [.int .i32 (u : Int)].toArray 21)
      have hnew : Blk (w3.alloc (.cells [.int .i32 (u : Int)].toArray 21)) w3.heap.size 21 [.int .i32 (u : Int)] := Blk.new _ _ _
      obtain ⟨b5, cap5, w5, cur5, hrun, hp5, hs5⟩ := Hp.append (P := Yba.prog) (T := 22) (ad := ⟨w3.heap.size, 0, none⟩) (m := 1) (c := 1) (news := [.int .i32 (u : Int)]) hlit el22 hsl (by simp)
        (fun q v hq => by rw [addr_add, Nat.zero_add]; exact hnew.cell hq) (by simp [Value.oneCell']) (by omega) (by omega) (by omega)
      refine J.region ?_    -- region 6
      refine JL.val (Run.move rfl) ?_
      refine JL.val (Run.move rfl) ?_
      refine JL.val (Run.buildSlice rfl (buildSlice1 el22 rfl)) ?_
      refine JL.val (Run.append rfl rfl hrun) ?_
      refine JL.val (Run.assign rfl) ?_
      refine JL.to (fun _ _ h => h) ?_
      refine J.region ?_    -- region 8
      refine JL.val (Run.add (c := ((j + 1 : Nat) : Int)) rfl rfl (by omega) (by omega) (by omega)) ?_
      refine JL.val (Run.move rfl) ?_
      have e1 : ((ys.take (j + 1)).filter fun u => !starAt stsB u) = (ys.take j).filter fun u => !starAt stsB u := by rw [filter_snoc _ hu]; simp [hsa]
      have e2 : (ys.take (j + 1)).filter (starAt stsB) = (ys.take j).filter (starAt stsB) ++ [u] := by rw [filter_snoc _ hu]; simp [hsa]
      have e3 : i32s (nI ((ys.take j).filter (starAt stsB) ++ [u])) = i32s (nI ((ys.take j).filter (starAt stsB))) ++ [.int .i32 (u : Int)] := by simp
      have hpe5 : PE w0 w5 (hup h2 (16, 0) (some (b5, cellsO cur5 21))) mb va vb stsA rv av ev (.slice none 0 0) (prun false ⟨stsA.length, [], []⟩ (alone ((ys.take (j + 1)).filter fun u => !starAt stsB u))) epsv := by
        rw [e1]
        exact ⟨hp5, hpe.le.keep fun n hn => hup_ne (fun e => by subst e; simp at hn), hpe.mg.keep fun n hn => hup_ne (fun e => by subst e; simp at hn), hpe.sl.hup (by simp), hpe.nx⟩
      have hs6 : Sl (hup h2 (16, 0) (some (b5, cellsO cur5 21))) (16, 0) 21 1 (.slice (some ⟨b5, 0, none⟩) (((ys.take j).filter (starAt stsB)).length + 1) cap5) ((ys.take (j + 1)).filter (starAt stsB)).length (i32s (nI ((ys.take (j + 1)).filter (starAt stsB)))) := by
        rw [e2, e3, List.length_append, List.length_singleton]
        exact hs5
      refine JL.nil fun a ha => ⟨(j + 1, hup h2 (16, 0) (some (b5, cellsO cur5 21)), epsv, .slice (some ⟨b5, 0, none⟩) (((ys.take j).filter (starAt stsB)).length + 1) cap5), by simp only; omega, ha.sub ⟨rfl, rfl, rfl, rfl, rfl, rfl, rfl, rfl, rfl, trivial⟩, by simp only; omega, hpe5, hs6, hf2.hup (by simp) _⟩
    | false =>
      rw [hstar] at hsa
      refine JL.val ((Run.gtr rfl rfl).to (v' := .bool false) (by simp)) ?_
      refine JL.to (fun _ _ h => h) ?_
      refine J.condF rfl rfl ?_
      have e1 : ((ys.take (j + 1)).filter fun u => !starAt stsB u) = ((ys.take j).filter fun u => !starAt stsB u) ++ [u] := by rw [filter_snoc _ hu]; simp [hsa]
      have e2 : (ys.take (j + 1)).filter (starAt stsB) = (ys.take j).filter (starAt stsB) := by rw [filter_snoc _ hu]; simp [hsa]
      have hne := nodup_not hyn hu
      have hk := prun_keys false (alone ((ys.take j).filter fun u => !starAt stsB u)) ⟨stsA.length, [], []⟩
      have hnx := prun_next false (alone ((ys.take j).filter fun u => !starAt stsB u)) ⟨stsA.length, [], []⟩
      have hll := prun_l false (alone ((ys.take j).filter fun u => !starAt stsB u)) ⟨stsA.length, [], []⟩
      have hel := prun_exp false (alone ((ys.take j).filter fun u => !starAt stsB u)) ⟨stsA.length, [], []⟩
      rw [alone_len] at hnx hll hel
      simp only [List.map_nil, List.nil_append, List.length_nil] at hk hnx hll hel
      have hkey : ((-1 : Int), ((u : Nat) : Int)) ∉ (prun false ⟨stsA.length, [], []⟩ (alone ((ys.take j).filter fun u => !starAt stsB u))).l.map (·.1) := by
        rw [hk]
        exact not_alone (fun hmm => hne (List.mem_filter.1 hmm).1)
      refine J.region ?_    -- region 7
      refine JL.val (Run.move rfl) ?_
      refine JL.val (Run.move rfl) ?_
      refine JL.val (Run.move rfl) ?_
      refine JL.val (Run.build rfl build54) ?_
      refine JL.call rfl Yba.func46 rfl rfl ?_
      refine slotP hpe3 (-1) (u : Int) false (by simp) (by omega) hkey (by omega) (by omega) (by omega) _ ?_
      rintro w4 z ⟨b5, cap5, w5, h5, hrun, hpe5, hf5⟩
      refine ⟨_, rfl, ?_⟩
      refine JL.val (Run.buildSlice rfl (buildSlice1 el22 rfl)) ?_
      refine JL.val (Run.append rfl rfl hrun) ?_
      refine JL.val (Run.assign rfl) ?_
      refine JL.to (fun _ _ h => h) ?_
      refine J.region ?_    -- region 8
      refine JL.val (Run.add (c := ((j + 1 : Nat) : Int)) rfl rfl (by omega) (by omega) (by omega)) ?_
      refine JL.val (Run.move rfl) ?_
      have hpe6 : PE w0 w5 h5 mb va vb stsA rv av ev (.slice none 0 0) (prun false ⟨stsA.length, [], []⟩ (alone ((ys.take (j + 1)).filter fun u => !starAt stsB u))) (.slice (some ⟨b5, 0, none⟩) ((prun false ⟨stsA.length, [], []⟩ (alone ((ys.take j).filter fun u => !starAt stsB u))).exp.length + 1) cap5) := by
        rw [e1]
        have e4 : alone (((ys.take j).filter fun u => !starAt stsB u) ++ [u]) = alone ((ys.take j).filter fun u => !starAt stsB u) ++ [((-1 : Int), ((u : Nat) : Int))] := by simp [alone]
        rw [e4, prun_snoc]
        exact hpe5
      refine JL.nil fun a ha => ⟨(j + 1, h5, .slice (some ⟨b5, 0, none⟩) ((prun false ⟨stsA.length, [], []⟩ (alone ((ys.take j).filter fun u => !starAt stsB u))).exp.length + 1) cap5, sv2), by simp only; omega, ha.sub ⟨rfl, rfl, rfl, rfl, rfl, rfl, rfl, rfl, rfl, trivial⟩, by simp only; omega, hpe6, ?_, hf2.trans hf5.toP⟩
      simp only
      rw [e2]
      exact hsl.keep (hf5 _ (by simp))
  have hjl : j = ys.length := by have := of_decide_eq_false hc; omega
  subst hjl
  clear hc hj
  rw [List.take_length, hyp] at hpe
  rw [List.take_length, hysd] at hsl
  refine J.exitTo (fun _ _ h => h) ?_    -- exit 0
  have hnx1 := prun_next false (alone yp) ⟨stsA.length, [], []⟩
  have hll1 := prun_l false (alone yp) ⟨stsA.length, [], []⟩
  have hel1 := prun_exp false (alone yp) ⟨stsA.length, [], []⟩
  have hk1' := prun_keys false (alone yp) ⟨stsA.length, [], []⟩
  rw [alone_len] at hnx1 hll1 hel1
  simp only [List.map_nil, List.nil_append, List.length_nil, Nat.zero_add] at hk1' hnx1 hll1 hel1
  obtain ⟨cs, hcs, hcl, hp3, hm3⟩ := hpe.mg.setStars (sv' := sv2) hpe.hp
  have hpe3 : PE w0 (Fw.stl w2 mb (cs.set 8 sv2)) (hup h2 (10, 0) (some (mb, cellsO (cs.set 8 sv2) 60))) mb va vb stsA rv av ev sv2 (prun false ⟨stsA.length, [], []⟩ (alone yp)) epsv :=
    ⟨hp3, hpe.le.keep fun n hn => hup_ne (fun e => by subst e; simp at hn), hm3, hpe.sl.hup (by simp), hpe.nx⟩
  have hsl3 : Sl (hup h2 (10, 0) (some (mb, cellsO (cs.set 8 sv2) 60))) (16, 0) 21 1 sv2 yst.length (i32s (nI yst)) := hsl.hup (by simp)
  have hf3 : FrP h1 (hup h2 (10, 0) (some (mb, cellsO (cs.set 8 sv2) 60))) := hf2.hup (by simp) _
  obtain ⟨sa, sc, hsv⟩ := hsl.slice
  subst hsv
  obtain ⟨epa, epc, hepv⟩ := hpe.sl.slice
  rw [hel1] at hepv
  subst hepv
  refine J.seq ?_
  refine J.region ?_    -- region 9
  refine JL.val (Run.move rfl) ?_
  refine JL.val (Run.move rfl) ?_
  refine JL.val (Run.nil rfl) ?_
  refine JL.val (Run.field fl60_8 rfl) ?_
  refine JL.eff (Run.store c22 rfl rfl rfl hcs (by omega)) ?_
  refine JL.to (fun _ _ h => h) ?_
  rw [show 0 + 8 = 8 from rfl]
  generalize hup h2 (10, 0) (some (mb, cellsO (cs.set 8 (.slice sa yst.length sc)) 60)) = h3 at *
  generalize Fw.stl w2 mb (cs.set 8 (.slice sa yst.length sc)) = w3 at *
  clear hpe hsl hcs hcl hp3 hm3 hf2 hB2 hy2
  have hx3 : RdH h3 (20, 0) (.slice xa xs.length xc) xs.length (i32s (nI xs)) := hx1.keep (hf3 _ (by simp))
  have hbx3 : h3 (97, 1) = some (bx, cellsO [.int .i32 px, .int .i32 0] 54) := (hf3 _ (by simp)).trans hbx
  refine J.seq ?_
  refine J.region ?_    -- region 10
  refine JL.val (Run.move rfl) ?_
  refine JL.val (Run.len Yba.underlying22 rfl) ?_
  refine JL.val (Run.assign rfl) ?_
  refine JL.to (fun _ _ h => h) ?_
  generalize hst1 : prun false ⟨stsA.length, [], []⟩ (alone yp) = st1 at *
  have hslot : ∀ (w' : World) (h' : Hn), Hp w0 w' h' → FrN h3 h' → ∀ (j u : Nat), yst[j]? = some u → ∃ g c, Value.slice sa yst.length sc = .slice (some ⟨g, 0, none⟩) yst.length c ∧ w'.cell? ⟨g, j, none⟩ = some (.int .i32 (u : Int)) := fun w' h' hp' hf' j u hu =>
    (hsl3.keep (hf' (16, 0) (by simp))).cell hp' (by simp [hu])
  refine J.mid (ι := Hn × Value) (fun i => [(1, i.2), (17, .int .i64 (yp.length : Int))])
    (fun i w' => PE w0 w' i.1 mb va vb stsA rv av ev (.slice sa yst.length sc) (pfin stsA.length yp yst xs (decide (px = s) && decide (yst.length = 1) && decide (ind = 2))) i.2 ∧ FrP h1 i.1) ?_ ?_
  · refine J.block ?_
    refine J.seq ?_
    refine J.region ?_    -- region 22
    refine JL.val (Run.move rfl) ?_
    refine JL.val (Run.len Yba.underlying22 rfl) ?_
    refine JL.val (Run.eql rfl rfl) ?_
    refine JL.val (Run.assign rfl) ?_
    refine JL.to (fun _ _ h => h) ?_
    refine J.cond rfl (fun hc => ?_) (fun hc => ?_)
    · have hy0 : yst = [] := List.eq_nil_of_length_eq_zero (by have := of_decide_eq_true hc; omega)
      have hfin : pfin stsA.length yp yst xs (decide (px = s) && decide (yst.length = 1) && decide (ind = 2)) = ⟨st1.next, st1.exp ++ nI xs, st1.l⟩ := by
        unfold pfin
        rw [if_pos hy0, hst1]
      have hsl4 := hpe3.sl
      rw [hel1] at hsl4
      obtain ⟨v5, w5, h5, hrun, hp5, hs5, hf5⟩ := appendR (P := Yba.prog) (T := 22) hpe3.hp el22 hsl4 (hx3.rd hpe3.hp) (by simp) (i32s_one _) (by omega) (by omega)
      refine J.region ?_    -- region 23
      refine JL.val (Run.move rfl) ?_
      refine JL.val (Run.move rfl) ?_
      refine JL.val (Run.append rfl rfl hrun) ?_
      refine JL.val (Run.assign rfl) ?_
      have hpe5 : PE w0 w5 h5 mb va vb stsA rv av ev (.slice sa yst.length sc) (pfin stsA.length yp yst xs (decide (px = s) && decide (yst.length = 1) && decide (ind = 2))) v5 := by
        rw [hfin]
        refine ⟨hp5, hpe3.le.keep fun n hn => hf5 n (fun e => by subst e; simp at hn), hpe3.mg.keep fun n hn => hf5 n (fun e => by subst e; simp at hn), ?_, hpe3.nx⟩
        have e3 : i32s (st1.exp ++ nI xs) = i32s st1.exp ++ i32s (nI xs) := by simp
        have e4 : (st1.exp ++ nI xs).length = yp.length + xs.length := by simp [hel1]
        simp only
        rw [e3, e4]
        exact hs5
      refine JL.nil fun a ha => ⟨(h5, v5), ha.sub ⟨rfl, rfl, trivial⟩, hpe5, hf3.trans fun n hn => hf5 n (fun e => by subst e; simp at hn)⟩
    · have hy0 : yst ≠ [] := fun e => by have := of_decide_eq_false hc; rw [e] at this; simp at this
      refine J.seq ?_
      refine J.region ?_    -- region 24
      refine JL.val (Run.move rfl) ?_
      refine JL.val (Run.len Yba.underlying22 rfl) ?_
      refine JL.val (Run.eql rfl rfl) ?_
      refine JL.val (Run.assign rfl) ?_
      refine JL.to (fun _ _ h => h) ?_
      refine J.cond rfl (fun hc2 => ?_) (fun hc2 => ?_)
      · have hx0 : xs = [] := List.eq_nil_of_length_eq_zero (by have := of_decide_eq_true hc2; omega)
        have hfin : pfin stsA.length yp yst xs (decide (px = s) && decide (yst.length = 1) && decide (ind = 2)) = prun false st1 (alone yst) := by
          unfold pfin
          rw [if_neg hy0, if_pos hx0, hst1]
        refine J.seq ?_
        refine J.region ?_    -- region 25
        refine JL.val (Run.move rfl) ?_
        refine JL.val (Run.len Yba.underlying22 rfl) ?_
        refine JL.val (Run.move rfl) ?_
        refine JL.to (fun _ _ h => h) ?_
        refine J.block ?_
        refine J.loop (ι := Nat × Hn × Value)
          (fun i => [(0, ptr mb), (1, i.2.2), (17, .int .i64 (yp.length : Int)), (128, .slice sa yst.length sc), (129, .int .i64 (yst.length : Int)), (130, .int .i64 (i.1 : Int))])
          (fun i w' => i.1 ≤ yst.length ∧ PE w0 w' i.2.1 mb va vb stsA rv av ev (.slice sa yst.length sc) (prun false st1 (alone (yst.take i.1))) i.2.2 ∧ FrN h3 i.2.1)
          (fun i => yst.length - i.1) (0, h3, .slice epa yp.length epc) ⟨rfl, rfl, rfl, rfl, rfl, rfl, trivial⟩ ⟨by omega, hpe3, FrN.refl _⟩ ?_
        rintro ⟨j, h4, epsv⟩ w4 ⟨hj, hpe4, hf4⟩
        simp only at hj hpe4 hf4 ⊢
        refine J.seq ?_
        refine J.region ?_    -- region 26
        refine JL.val (Run.lss rfl rfl) ?_
        refine JL.to (fun _ _ h => h) ?_
        refine J.seq ?_
        refine J.cond rfl (fun hc3 => ?_) (fun hc3 => ?_)
        · have hjl : j < yst.length := by have := of_decide_eq_true hc3; omega
          obtain ⟨u, hu⟩ : ∃ u, yst[j]? = some u := ⟨yst[j], List.getElem?_eq_getElem hjl⟩
          obtain ⟨g, c, hv, hcell⟩ := hslot w4 h4 hpe4.hp hf4 j u hu
          cases hv
          have hk := prun_keys false (alone (yst.take j)) st1
          have hnx := prun_next false (alone (yst.take j)) st1
          have hll := prun_l false (alone (yst.take j)) st1
          have hel := prun_exp false (alone (yst.take j)) st1
          rw [alone_len, List.length_take] at hnx hll hel
          have hkey : ((-1 : Int), ((u : Nat) : Int)) ∉ (prun false st1 (alone (yst.take j))).l.map (·.1) := by
            rw [hk, hk1']
            intro hmm
            rcases List.mem_append.1 hmm with hmm | hmm
            · exact not_alone (hypst u (List.mem_of_getElem? hu)) hmm
            · exact not_alone (nodup_not hystn hu) hmm
          refine J.skipTo (fun _ _ h => h) ?_
          refine J.seq ?_
          refine J.block ?_
          refine J.seq ?_
          refine J.region ?_    -- region 27
          refine JL.val (Run.index Yba.underlying22 c21 (by decide) rfl rfl hjl) ?_
          refine JL.val (Run.load t21 rfl (by rw [Nat.mul_one, Nat.zero_add]; exact hcell)) ?_
          refine JL.val (Run.assign rfl) ?_
          refine JL.to (fun _ _ h => h) ?_
          refine J.region ?_    -- region 28
          refine JL.val (Run.move rfl) ?_
          refine JL.val (Run.move rfl) ?_
          refine JL.val (Run.move rfl) ?_
          refine JL.val (Run.build rfl build54) ?_
          refine JL.call rfl Yba.func46 rfl rfl ?_
          refine slotP hpe4 (-1) (u : Int) false (by simp) (by omega) hkey (by omega) (by omega) (by omega) _ ?_
          rintro w5 z ⟨b5, cap5, w6, h5, hrun, hpe5, hf5⟩
          refine ⟨_, rfl, ?_⟩
          refine JL.val (Run.buildSlice rfl (buildSlice1 el22 rfl)) ?_
          refine JL.val (Run.append rfl rfl hrun) ?_
          refine JL.val (Run.assign rfl) ?_
          refine JL.to (fun _ _ h => h) ?_
          refine J.region ?_    -- region 29
          refine JL.val (Run.add (c := ((j + 1 : Nat) : Int)) rfl rfl (by omega) (by omega) (by omega)) ?_
          refine JL.val (Run.move rfl) ?_
          have e4 : alone (yst.take (j + 1)) = alone (yst.take j) ++ [((-1 : Int), ((u : Nat) : Int))] := by rw [take_get hu]; simp [alone]
          rw [← prun_snoc, ← e4] at hpe5
          refine JL.nil fun a ha => ⟨(j + 1, h5, .slice (some ⟨b5, 0, none⟩) ((prun false st1 (alone (yst.take j))).exp.length + 1) cap5), by simp only; omega, ha.sub ⟨rfl, rfl, rfl, rfl, rfl, rfl, trivial⟩, by simp only; omega, hpe5, hf4.trans hf5⟩
        · have hjl : j = yst.length := by have := of_decide_eq_false hc3; omega
          rw [hjl, List.take_length, ← hfin] at hpe4
          refine J.exit fun a ha => ⟨(h4, epsv), ha.sub ⟨rfl, rfl, trivial⟩, hpe4, hf3.trans hf4.toP⟩
      · have hx0 : xs ≠ [] := fun e => by have := of_decide_eq_false hc2; rw [e] at this; simp at this
        generalize htk : (decide (px = s) && decide (yst.length = 1) && decide (ind = 2)) = take at *
        have hfin : pfin stsA.length yp yst xs take = prun take st1 (each xs yst) := by
          unfold pfin
          rw [if_neg hy0, if_neg hx0, hst1]
        refine J.mid (ι := Unit) (fun _ => [(0, ptr mb), (1, .slice epa yp.length epc), (4, .slice xa xs.length xc), (14, .slice sa yst.length sc), (17, .int .i64 (yp.length : Int)), (20, .bool (decide (px = s) && decide (yst.length = 1)))])
          (fun _ w' => w' = w3) ?_ ?_
        · have hbk := hpe3.hp.blk hbx3
          refine J.region ?_    -- region 11
          refine JL.val (Run.field fl54_0 rfl) ?_
          refine JL.val (Run.load t21 rfl (hbk.cell rfl)) ?_
          refine JL.val (Run.move rfl) ?_
          by_cases hps : px = s
          · refine JL.val ((Run.eql rfl rfl).to (v' := .bool true) (by simp [hps])) ?_
            refine JL.val (Run.move rfl) ?_
            refine JL.gval rfl rfl (Run.move rfl) ?_
            refine JL.gval rfl rfl (Run.len Yba.underlying22 rfl) ?_
            refine JL.gval rfl rfl (Run.eql rfl rfl) ?_
            refine JL.val ((Run.pickT rfl rfl).to (v' := .bool (decide (px = s) && decide (yst.length = 1))) (by
              rw [decide_eq_true hps, Bool.true_and]
              exact bd (decide_eq_decide.2 (by omega)))) ?_
            refine JL.val (Run.assign rfl) ?_
            refine JL.nil fun a ha => ⟨(), ha.sub ⟨rfl, rfl, rfl, rfl, rfl, rfl, trivial⟩, rfl⟩
          · refine JL.val ((Run.eql rfl rfl).to (v' := .bool false) (by simp [hps])) ?_
            refine JL.val (Run.move rfl) ?_
            refine JL.gskip rfl rfl ?_
            refine JL.gskip rfl rfl ?_
            refine JL.gskip rfl rfl ?_
            refine JL.val ((Run.pickF rfl rfl).to (v' := .bool (decide (px = s) && decide (yst.length = 1))) (by rw [decide_eq_false hps, Bool.false_and])) ?_
            refine JL.val (Run.assign rfl) ?_
            refine JL.nil fun a ha => ⟨(), ha.sub ⟨rfl, rfl, rfl, rfl, rfl, rfl, trivial⟩, rfl⟩
        rintro _ _ rfl
        generalize hsg : (decide (px = s) && decide (yst.length = 1)) = single at *
        refine J.seq ?_
        refine J.region ?_    -- region 12
        refine JL.val (Run.move rfl) ?_
        refine JL.val (Run.len Yba.underlying22 rfl) ?_
        refine JL.val (Run.move rfl) ?_
        refine JL.to (fun _ _ h => h) ?_
        refine J.block ?_
        refine J.loop (ι := Nat × Hn × Value)
          (fun i => [(0, ptr mb), (1, i.2.2), (14, .slice sa yst.length sc), (17, .int .i64 (yp.length : Int)), (20, .bool single), (71, .slice xa xs.length xc), (72, .int .i64 (xs.length : Int)), (73, .int .i64 (i.1 : Int))])
          (fun i w' => i.1 ≤ xs.length ∧ PE w0 w' i.2.1 mb va vb stsA rv av ev (.slice sa yst.length sc) (prun take st1 (each (xs.take i.1) yst)) i.2.2 ∧ FrN h3 i.2.1)
          (fun i => xs.length - i.1) (0, h3, .slice epa yp.length epc) ⟨rfl, rfl, rfl, rfl, rfl, rfl, rfl, rfl, trivial⟩ ⟨by omega, hpe3, FrN.refl _⟩ ?_
        rintro ⟨i, h4, epsv⟩ w4 ⟨hi, hpe4, hf4⟩
        simp only at hi hpe4 hf4 ⊢
        refine J.seq ?_
        refine J.region ?_    -- region 13
        refine JL.val (Run.lss rfl rfl) ?_
        refine JL.to (fun _ _ h => h) ?_
        refine J.seq ?_
        refine J.cond rfl (fun hc3 => ?_) (fun hc3 => ?_)
        · have hil : i < xs.length := by have := of_decide_eq_true hc3; omega
          clear hc3
          obtain ⟨t, ht⟩ : ∃ t, xs[i]? = some t := ⟨xs[i], List.getElem?_eq_getElem hil⟩
          obtain ⟨sx, hsx, hsx1, hsx2⟩ := hxa t (List.mem_of_getElem? ht)
          obtain ⟨xa', xc', hxe, hxcell⟩ := (hx3.keep (hf4 _ (by simp))).rd hpe4.hp
          cases hxe
          obtain ⟨gx, ox, hxe, hxc2⟩ := hxcell (by omega)
          subst hxe
          have hcell := hxc2 i (.int .i32 (t : Int)) (by simp [ht])
          refine J.skipTo (fun _ _ h => h) ?_
          refine J.seq ?_
          refine J.block ?_
          refine J.seq ?_
          refine J.region ?_    -- region 14
          refine JL.val (Run.index Yba.underlying22 c21 (by decide) rfl rfl hil) ?_
          refine JL.val (Run.load t21 rfl (by rw [Nat.mul_one]; exact hcell)) ?_
          refine JL.val (Run.assign rfl) ?_
          refine JL.to (fun _ _ h => h) ?_
          refine J.mid (ι := Unit) (fun _ => [(0, ptr mb), (1, epsv), (14, .slice sa yst.length sc), (17, .int .i64 (yp.length : Int)), (20, .bool single), (22, .int .i32 (t : Int)), (23, .bool take), (71, .slice (some ⟨gx, ox, none⟩) xs.length xc), (72, .int .i64 (xs.length : Int)), (73, .int .i64 (i : Int))])
            (fun _ w' => PE w0 w' h4 mb va vb stsA rv av ev (.slice sa yst.length sc) (prun take st1 (each (xs.take i) yst)) epsv) ?_ ?_
          · have hmva := fun (x : World) (hx : Hp w0 x h4) => (hpe4.mg.cells hx).1
            have hst4 : (stsA ++ List.replicate ((prun take st1 (each (xs.take i) yst)).next - stsA.length) sv0)[t]? = some sx := app_get hsx
            cases single with
            | false =>
              have htf : take = false := by rw [← htk]; rfl
              have hS : w4.drew = w4.drew := rfl
              refine J.draw (fun x => x = w4.drew) 24 [(0, true), (1, true), (2, true), (3, true), (4, true), (5, true), (6, true), (7, true), (8, true), (9, true), (10, true), (11, true), (12, true), (13, true), (14, true), (15, true), (16, true), (17, true), (18, true), (19, true), (20, true), (21, true), (22, true), (23, true)] (by kernel_rfl) (by kernel_rfl) ?_
              refine JS.take (i := 0) rfl hS (fun w' hw' => Run.move rfl) ?_
              refine JS.take (i := 1) rfl hS (fun w' hw' => Run.move rfl) ?_
              refine JS.gskip (i := 2) rfl rfl rfl hS ?_
              refine JS.gskip (i := 3) rfl rfl rfl hS ?_
              refine JS.gskip (i := 4) rfl rfl rfl hS ?_
              refine JS.gskip (i := 5) rfl rfl rfl hS ?_
              refine JS.gskip (i := 6) rfl rfl rfl hS ?_
              refine JS.gskip (i := 7) rfl rfl rfl hS ?_
              refine JS.gskip (i := 8) rfl rfl rfl hS ?_
              refine JS.gskip (i := 9) rfl rfl rfl hS ?_
              refine JS.gskip (i := 10) rfl rfl rfl hS ?_
              refine JS.gskip (i := 11) rfl rfl rfl hS ?_
              refine JS.gskip (i := 12) rfl rfl rfl hS ?_
              refine JS.gskip (i := 13) rfl rfl rfl hS ?_
              refine JS.gskip (i := 14) rfl rfl rfl hS ?_
              refine JS.gskip (i := 15) rfl rfl rfl hS ?_
              refine JS.gskip (i := 16) rfl rfl rfl hS ?_
              refine JS.gskip (i := 17) rfl rfl rfl hS ?_
              refine JS.gskip (i := 18) rfl rfl rfl hS ?_
              refine JS.gskip (i := 19) rfl rfl rfl hS ?_
              refine JS.gskip (i := 20) rfl rfl rfl hS ?_
              refine JS.gskip (i := 21) rfl rfl rfl hS ?_
              refine JS.take (i := 22) rfl hS (fun w' hw' => Run.pickF rfl rfl) ?_
              refine JS.take (i := 23) rfl hS (fun w' hw' => (Run.assign rfl).to (v' := .bool take) (by rw [htf])) ?_
              refine JS.nil fun a ha => ⟨(), ha.sub ⟨rfl, rfl, rfl, rfl, rfl, rfl, rfl, rfl, rfl, rfl, trivial⟩, ⟨hpe4.hp.drew, hpe4.le, hpe4.mg, hpe4.sl, hpe4.nx⟩⟩
            | true =>
              have htt : take = decide (ind = 2) := by rw [← htk]; simp
              obtain ⟨ov4, rows4, hl4, hrn4⟩ := hpe4.le
              have htl4 := (List.getElem?_eq_some_iff.1 hst4).1
              obtain ⟨rb, rcap, rcur, hrow4, hat4⟩ := hl4.at (by omega) hst4
              have hSof : ∀ x, Hp w0 x h4 → x.cell? ⟨mb, 0, none⟩ = some (ptr va) ∧ x.cell? ⟨rb, t % 16384 * 5 + 3, none⟩ = some (.int .i32 ind) := fun x hx => ⟨hmva x hx, hx.cell hat4.blk (by have := hat4.get 3 (.int .i32 sx.indeg) rfl; rwa [hsx2] at this)⟩
              have hS := hSof _ hpe4.hp.drew
              refine J.draw (fun x => x.cell? ⟨mb, 0, none⟩ = some (ptr va) ∧ x.cell? ⟨rb, t % 16384 * 5 + 3, none⟩ = some (.int .i32 ind)) 24 [(0, true), (1, true), (2, true), (3, true), (4, true), (5, true), (6, true), (7, true), (8, true), (14, true), (15, true), (16, true), (17, true), (18, true), (9, false), (10, true), (11, true), (12, true), (13, true), (19, false), (20, true), (21, true), (22, true), (23, true)] (by kernel_rfl) (by kernel_rfl) ?_
              refine JS.take (i := 0) rfl hS (fun w' hw' => Run.move rfl) ?_
              refine JS.take (i := 1) rfl hS (fun w' hw' => Run.move rfl) ?_
              refine JS.gtake (i := 2) rfl rfl rfl hS (fun w' hw' => Run.move rfl) ?_
              refine JS.gtake (i := 3) rfl rfl rfl hS (fun w' hw' => Run.nil rfl) ?_
              refine JS.gtake (i := 4) rfl rfl rfl hS (fun w' hw' => Run.field fl60_0 rfl) ?_
              refine JS.gtake (i := 5) rfl rfl rfl hS (fun w' hw' => Run.load t56 rfl hw'.1) ?_
              refine JS.gtake (i := 6) rfl rfl rfl hS (fun w' hw' => Run.nil rfl) ?_
              refine JS.gtake (i := 7) rfl rfl rfl hS (fun w' hw' => Run.field fl44_0 rfl) ?_
              refine JS.gtake (i := 8) rfl rfl rfl hS (fun w' hw' => Run.move rfl) ?_
              refine JS.gtake (i := 14) rfl rfl rfl hS (fun w' hw' => Run.move rfl) ?_
              refine JS.gtake (i := 15) rfl rfl rfl hS (fun w' hw' => Run.nil rfl) ?_
              refine JS.gtake (i := 16) rfl rfl rfl hS (fun w' hw' => Run.field fl60_0 rfl) ?_
              refine JS.gtake (i := 17) rfl rfl rfl hS (fun w' hw' => Run.load t56 rfl hw'.1) ?_
              refine JS.gtake (i := 18) rfl rfl rfl hS (fun w' hw' => Run.move rfl) ?_
              refine JS.gcall (i := 9) rfl rfl rfl rfl Yba.func18 rfl rfl ?_
              refine at_calls hpe4.hp.drew hpe4.le hst4 _ ?_
              intro rb' cur' hat'
              have hrb : rb' = rb := by
                have := hat'.blk.symm.trans hat4.blk
                simp only [Option.some.injEq, Prod.mk.injEq] at this
                exact this.1
              subst hrb
              refine ⟨_, rfl, fun _ => hS, ?_⟩
              refine JS.gtake (i := 10) rfl rfl rfl hS (fun w' hw' => Run.nil rfl) ?_
              refine JS.gtake (i := 11) rfl rfl rfl hS (fun w' hw' => Run.field fl48_3 rfl) ?_
              refine JS.gtake (i := 12) rfl rfl rfl hS (fun w' hw' => Run.load t21 rfl hw'.2) ?_
              refine JS.gtake (i := 13) rfl rfl rfl hS (fun w' hw' => Run.conv64 Yba.underlying3 ⟨_, Yba.underlying21⟩ rfl (by omega) (by omega)) ?_
              refine JS.gcall (i := 19) rfl rfl rfl rfl Yba.func45 rfl rfl ?_
              refine loops_calls hpe4.hp.drew hpe4.le hst4 _ ?_
              intro w5 hp5
              rw [hsx1]
              have hS5 := hSof _ hp5
              refine ⟨_, rfl, fun _ => hS5, ?_⟩
              refine JS.gtake (i := 20) rfl rfl rfl hS5 (fun w' hw' => Run.add (c := 2) rfl rfl (by simp) (by omega) (by omega)) ?_
              refine JS.gtake (i := 21) rfl rfl rfl hS5 (fun w' hw' => Run.eql rfl rfl) ?_
              refine JS.take (i := 22) rfl hS5 (fun w' hw' => (Run.pickT rfl rfl).to (v' := .bool take) (by rw [htt])) ?_
              refine JS.take (i := 23) rfl hS5 (fun w' hw' => Run.assign rfl) ?_
              refine JS.nil fun a ha => ⟨(), ha.sub ⟨rfl, rfl, rfl, rfl, rfl, rfl, rfl, rfl, rfl, rfl, trivial⟩, ⟨hp5, hpe4.le, hpe4.mg, hpe4.sl, hpe4.nx⟩⟩
          rintro _ w5 hpe5
          refine J.seq ?_
          refine J.region ?_    -- region 16
          refine JL.val (Run.move rfl) ?_
          refine JL.val (Run.len Yba.underlying22 rfl) ?_
          refine JL.val (Run.move rfl) ?_
          refine JL.to (fun _ _ h => h) ?_
          refine J.block ?_
          refine J.loop (ι := Nat × Hn × Value)
            (fun q => [(0, ptr mb), (1, q.2.2), (14, .slice sa yst.length sc), (17, .int .i64 (yp.length : Int)), (20, .bool single), (22, .int .i32 (t : Int)), (23, .bool take), (71, .slice (some ⟨gx, ox, none⟩) xs.length xc), (72, .int .i64 (xs.length : Int)), (73, .int .i64 (i : Int)), (100, .slice sa yst.length sc), (101, .int .i64 (yst.length : Int)), (102, .int .i64 (q.1 : Int))])
            (fun q w' => q.1 ≤ yst.length ∧ PE w0 w' q.2.1 mb va vb stsA rv av ev (.slice sa yst.length sc) (prun take (prun take st1 (each (xs.take i) yst)) (one t (yst.take q.1))) q.2.2 ∧ FrN h3 q.2.1)
            (fun q => yst.length - q.1) (0, h4, epsv) ⟨rfl, rfl, rfl, rfl, rfl, rfl, rfl, rfl, rfl, rfl, rfl, rfl, rfl, trivial⟩ ⟨by omega, hpe5, hf4⟩ ?_
          clear hpe5 hpe4 hf4 hcell hxc2 hxcell
          clear h4 epsv
          rintro ⟨j, h4, epsv⟩ w6 ⟨hj, hpe4, hf4⟩
          simp only at hj hpe4 hf4 ⊢
          have hk0 := prun_keys take (each (xs.take i) yst) st1
          have hk := prun_keys take (one t (yst.take j)) (prun take st1 (each (xs.take i) yst))
          have hnx0 := prun_next take (each (xs.take i) yst) st1
          have hll0 := prun_l take (each (xs.take i) yst) st1
          have hel0 := prun_exp take (each (xs.take i) yst) st1
          have hnx := prun_next take (one t (yst.take j)) (prun take st1 (each (xs.take i) yst))
          have hll := prun_l take (one t (yst.take j)) (prun take st1 (each (xs.take i) yst))
          have hel := prun_exp take (one t (yst.take j)) (prun take st1 (each (xs.take i) yst))
          have hmul : (xs.take i).length * yst.length ≤ 300 * 300 := Nat.mul_le_mul (by rw [List.length_take]; omega) hystl
          rw [each_len] at hnx0 hll0 hel0
          rw [one_len, List.length_take] at hnx hll hel
          refine J.seq ?_
          refine J.region ?_    -- region 17
          refine JL.val (Run.lss rfl rfl) ?_
          refine JL.to (fun _ _ h => h) ?_
          refine J.seq ?_
          refine J.cond rfl (fun hc4 => ?_) (fun hc4 => ?_)
          · have hjl : j < yst.length := by have := of_decide_eq_true hc4; omega
            obtain ⟨u, hu⟩ : ∃ u, yst[j]? = some u := ⟨yst[j], List.getElem?_eq_getElem hjl⟩
            obtain ⟨g, c, hv, hcell⟩ := hslot w6 h4 hpe4.hp hf4 j u hu
            cases hv
            have hkey : (((t : Nat) : Int), ((u : Nat) : Int)) ∉ (prun take (prun take st1 (each (xs.take i) yst)) (one t (yst.take j))).l.map (·.1) := by
              rw [hk, hk0, hk1']
              intro hmm
              rcases List.mem_append.1 hmm with hmm | hmm
              · rcases List.mem_append.1 hmm with hmm | hmm
                · exact not_alone' hmm
                · exact not_each (nodup_not hxn ht) hmm
              · exact not_one (nodup_not hystn hu) hmm
            refine J.skipTo (fun _ _ h => h) ?_
            refine J.seq ?_
            refine J.block ?_
            refine J.seq ?_
            refine J.region ?_    -- region 18
            refine JL.val (Run.index Yba.underlying22 c21 (by decide) rfl rfl hjl) ?_
            refine JL.val (Run.load t21 rfl (by rw [Nat.mul_one, Nat.zero_add]; exact hcell)) ?_
            refine JL.val (Run.assign rfl) ?_
            refine JL.to (fun _ _ h => h) ?_
            refine J.region ?_    -- region 19
            refine JL.val (Run.move rfl) ?_
            refine JL.val (Run.move rfl) ?_
            refine JL.val (Run.move rfl) ?_
            refine JL.val (Run.move rfl) ?_
            refine JL.val (Run.build rfl build54) ?_
            refine JL.val (Run.move rfl) ?_
            refine JL.call rfl Yba.func46 rfl rfl ?_
            refine slotP hpe4 (t : Int) (u : Int) take (fun _ => by omega) (by omega) hkey (by omega) (by omega) (by omega) _ ?_
            rintro w7 z ⟨b5, cap5, w8, h5, hrun, hpe5, hf5⟩
            refine ⟨_, rfl, ?_⟩
            refine JL.val (Run.buildSlice rfl (buildSlice1 el22 rfl)) ?_
            refine JL.val (Run.append rfl rfl hrun) ?_
            refine JL.val (Run.assign rfl) ?_
            refine JL.to (fun _ _ h => h) ?_
            refine J.region ?_    -- region 20
            refine JL.val (Run.add (c := ((j + 1 : Nat) : Int)) rfl rfl (by omega) (by omega) (by omega)) ?_
            refine JL.val (Run.move rfl) ?_
            have e4 : one t (yst.take (j + 1)) = one t (yst.take j) ++ [(((t : Nat) : Int), ((u : Nat) : Int))] := by rw [take_get hu]; simp [one]
            rw [← prun_snoc, ← e4] at hpe5
            refine JL.nil fun a ha => ⟨(j + 1, h5, .slice (some ⟨b5, 0, none⟩) ((prun take (prun take st1 (each (xs.take i) yst)) (one t (yst.take j))).exp.length + 1) cap5), by simp only; omega, ha.sub ⟨rfl, rfl, rfl, rfl, rfl, rfl, rfl, rfl, rfl, rfl, rfl, rfl, rfl, trivial⟩, by simp only; omega, hpe5, hf4.trans hf5⟩
          · have hjl : j = yst.length := by have := of_decide_eq_false hc4; omega
            have e5 : each (xs.take (i + 1)) yst = each (xs.take i) yst ++ one t yst := by rw [take_get ht]; simp [each]
            rw [hjl, List.take_length, ← prun_append, ← e5] at hpe4
            refine J.exitTo (fun _ _ h => h) ?_    -- exit 5
            refine J.region ?_    -- region 21
            refine JL.val (Run.add (c := ((i + 1 : Nat) : Int)) rfl rfl (by omega) (by omega) (by omega)) ?_
            refine JL.val (Run.move rfl) ?_
            refine JL.nil fun a ha => ⟨(i + 1, h4, epsv), by simp only; omega, ha.sub ⟨rfl, rfl, rfl, rfl, rfl, rfl, rfl, rfl, trivial⟩, by simp only; omega, hpe4, hf4⟩
        · have hil : i = xs.length := by have := of_decide_eq_false hc3; omega
          rw [hil, List.take_length, ← hfin] at hpe4
          refine J.exit fun a ha => ⟨(h4, epsv), ha.sub ⟨rfl, rfl, trivial⟩, hpe4, hf3.trans hf4.toP⟩
  · rintro ⟨h4, epsv⟩ w4 ⟨hpe4, hf4⟩
    simp only at hpe4 hf4 ⊢
    have hr := hR w4 h4 epsv _ hpe4 (fun n hn => (hf4 n (by omega)).trans (hk1 n (fun e => by subst e; simp at hn)))
    obtain ⟨ea4, ec4, hev4⟩ := hpe4.sl.slice
    have hbig : (pfin stsA.length yp yst xs (decide (px = s) && decide (yst.length = 1) && decide (ind = 2))).exp.length ≤ 200000 := by
      have hmul : xs.length * yst.length ≤ 300 * 300 := Nat.mul_le_mul hxl hystl
      unfold pfin
      rw [hst1]
      split
      · simp; omega
      · split
        · rw [prun_exp, alone_len]; omega
        · rw [prun_exp, each_len]; omega
    generalize pfin stsA.length yp yst xs (decide (px = s) && decide (yst.length = 1) && decide (ind = 2)) = fin at *
    subst hev4
    refine J.seq ?_
    refine J.region ?_    -- region 30
    refine JL.val (Run.move rfl) ?_
    refine JL.val (Run.move rfl) ?_
    refine JL.val (Run.len Yba.underlying22 rfl) ?_
    refine JL.val (Run.move rfl) ?_
    refine JL.val (Run.sub (c := (fin.exp.length : Int) - (yp.length : Int)) rfl rfl rfl (by omega) (by omega)) ?_
    refine JL.val (Run.assign rfl) ?_
    refine JL.val (Run.assign rfl) ?_
    refine JL.to (fun _ _ h => h) ?_
    refine J.ret2 Yba.f29 R (fun _ _ h => h) rfl rfl rfl ?_
    exact hr
end Go.Proofs.Ybulkpgu
