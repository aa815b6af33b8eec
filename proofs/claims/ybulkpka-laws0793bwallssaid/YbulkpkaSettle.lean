/-
  settle: every row sorted and made compact; what matters: it lists the same nodes.
-/
import Derived.Test.YbulkpkaShelf
import Derived.Test.YbulkpkaLink
import Derived.Sort.OwnSortedInts
namespace Go.Proofs.Ybulkpka
open Go.Fw Go.RowKit Go.Sort
attribute [local simp] Go.Fw.stl_size

def sorted (xs : List Int) : List Int := xs.mergeSort fun x y => decide (x ≤ y)

theorem sorted_len (xs : List Int) : (sorted xs).length = xs.length := (List.mergeSort_perm xs _).length_eq
theorem sorted_mem (xs : List Int) (x : Int) : x ∈ sorted xs ↔ x ∈ xs := (List.mergeSort_perm xs _).mem_iff

theorem compact_mem (xs : List Int) (x : Int) : x ∈ Lib.compact xs ↔ x ∈ xs := by
  have hget : ∀ j, j < xs.length → xs.toArray[j]! = xs.getD j 0 := fun j hj => by
    rw [getElem!_pos xs.toArray j (by simpa using hj)]
    simp [List.getD, hj]
  unfold Lib.compact Lib.compactUpTo
  constructor
  · intro h
    obtain ⟨j, hj, rfl⟩ := List.mem_map.1 h
    have hj' := List.mem_range.1 (List.mem_filter.1 hj).1
    rw [hget j hj']
    simp [List.getD, List.getElem?_eq_getElem hj']
  · intro h
    obtain ⟨j, hj⟩ := List.getElem?_of_mem h
    have key : ∀ j : Nat, xs[j]? = some x → x ∈ ((List.range xs.length).filter (Lib.keeps xs.toArray)).map (xs.toArray[·]!) := fun j => by
      induction j with
      | zero =>
        intro h0
        have hl := (List.getElem?_eq_some_iff.1 h0).1
        refine List.mem_map.2 ⟨0, List.mem_filter.2 ⟨List.mem_range.2 hl, by simp [Lib.keeps]⟩, ?_⟩
        rw [hget 0 hl]
        simp [List.getD, h0]
      | succ j ih =>
        intro h0
        have hl := (List.getElem?_eq_some_iff.1 h0).1
        have e1 : xs.toArray[j + 1]! = x := by rw [hget _ hl]; simp [List.getD, h0]
        by_cases hk : xs.toArray[j + 1]! = xs.toArray[j + 1 - 1]!
        · refine ih ?_
          have e2 : xs.toArray[j]! = x := by rw [← e1, hk]; rfl
          rw [hget j (by omega)] at e2
          rw [List.getElem?_eq_getElem (show j < xs.length by omega)]
          simpa [List.getD, List.getElem?_eq_getElem (show j < xs.length by omega)] using e2
        · exact List.mem_map.2 ⟨j + 1, List.mem_filter.2 ⟨List.mem_range.2 hl, Lib.keeps_pos hk⟩, e1⟩
    exact key j hj

theorem compact_len (xs : List Int) : (Lib.compact xs).length ≤ xs.length := by
  unfold Lib.compact Lib.compactUpTo
  rw [List.length_map]
  have := List.length_filter_le (Lib.keeps xs.toArray) (List.range xs.length)
  simpa using this

/-- slices.Sort of a row of the call's own. -/
theorem sort_calls (w : World) (N : Nat) (v : Value) (xs : List Int) (hown : w.ownsRow N 3 1 v xs.length (ints xs)) (hl : xs.length ≤ 10000000)
    (R : Ending → World → Prop) (hR : ∀ w', w'.ownsRow N 3 1 v xs.length (ints (sorted xs)) → w.grownBy w' v.ownBlock → R (.returned (.tuple #[])) w') : Calls Yba.prog 11 #[v] w R := by
  have hown' := hown
  obtain ⟨_, h | ⟨g, cap, cur, rfl, hb, hg, hn, hcm, hcs, ht⟩⟩ := hown
  · obtain ⟨rfl, h0⟩ := h
    have hxs : xs = [] := List.eq_nil_of_length_eq_zero h0
    subst hxs
    refine (Yba.slices_Sort_int_none none 0 w).mono ?_
    rintro e w' ⟨rfl, rfl⟩
    exact hR _ (by simpa [sorted] using hown') ⟨rfl, rfl, rfl, Nat.le_refl _, fun _ _ _ => rfl⟩
  · have ht' : cur.toList.take xs.length = xs.map (Value.int .i64) := by rw [Nat.mul_one] at ht; exact ht
    refine (Yba.slices_Sort_int g 0 cap xs w (holds_of_blockI hg ht') (Array.getElem?_eq_some_iff.1 hg).1 (by omega)).mono ?_
    rintro e w' ⟨rfl, n, os, rfl⟩
    exact hR _ (ownsRow_sortedI (sorted_len xs) hb hg hn hcm hcs) (grownBy_sortedI _)

/-- slices.Compact of a row of the call's own. -/
theorem compact_calls (w : World) (N : Nat) (v : Value) (xs : List Int) (hown : w.ownsRow N 3 1 v xs.length (ints xs)) (hl : xs.length ≤ 10000000)
    (R : Ending → World → Prop) (hR : ∀ w' v', w'.ownsRow N 3 1 v' (Lib.compact xs).length (ints (Lib.compact xs)) → w.grownBy w' v.ownBlock → v'.ownBlock = v.ownBlock → R (.returned v') w') : Calls Yba.prog 12 #[v] w R := by
  have hown' := hown
  obtain ⟨_, h | ⟨g, cap, cur, rfl, hb, hg, hn, hcm, hcs, ht⟩⟩ := hown
  · obtain ⟨rfl, h0⟩ := h
    have hxs : xs = [] := List.eq_nil_of_length_eq_zero h0
    subst hxs
    refine (Yba.slices_Compact_int_empty none 0 w).mono ?_
    rintro e w' ⟨rfl, rfl⟩
    exact hR _ _ hown' ⟨rfl, rfl, rfl, Nat.le_refl _, fun _ _ _ => rfl⟩ rfl
  · have ht' : cur.toList.take xs.length = xs.map (Value.int .i64) := by rw [Nat.mul_one] at ht; exact ht
    refine (Yba.slices_Compact_int g 0 cap xs w (holds_of_blockI hg ht') (by omega) hn).mono ?_
    rintro e w' ⟨rfl, n, hw⟩
    have hcl := compact_len xs
    have hlen : (Lib.compact xs ++ List.replicate (xs.length - (Lib.compact xs).length) (0 : Int)).length = xs.length := by simp; omega
    have hw' : w' = grow (putRow (Value.int .i64) (Sort.ahead w n) g 0 (Lib.compact xs ++ List.replicate (xs.length - (Lib.compact xs).length) 0).toArray) #[] := by rw [grow_empty]; exact hw
    have h1 := ownsRow_sortedI (n := n) (os := #[]) hlen hb hg hn hcm hcs
    rw [← hw'] at h1
    refine hR _ _ ?_ (by rw [hw']; exact grownBy_sortedI _) rfl
    obtain ⟨_, h | ⟨g', cap', cur', hv, hb', hg', hn', hcm', hcs', ht2⟩⟩ := h1
    · cases h.1
    · cases hv
      refine ⟨by simp, .inr ⟨g, cap, cur', rfl, hb', hg', by omega, hcm', hcs', ?_⟩⟩
      have := congrArg (List.take ((Lib.compact xs).length * 1)) ht2
      rw [List.take_take, Nat.min_eq_left (by omega)] at this
      rw [this]
      simp [ints]

theorem GrOk.setE {w : World} {N : Nat} {m : Gr} (h : GrOk w N m) (x : Int) : GrOk (Fw.stl w m.b (mkl m.ov x)) N ⟨m.b, x, m.ov, m.rows⟩ :=
  ⟨h.base, h.blk.stl _, ownsRow_keep h.outer (fun _ hb => stl_other (fun e => h.ob (e ▸ hb))), fun r hr => ownsRow_keep (h.row r hr) (fun _ hb => stl_other (fun e => h.rb r hr (e ▸ hb))), h.ob, h.rb, h.ro, h.rr⟩

/-- A row's block has turned, the row's value not. -/
theorem GrOk.turned {w w1 : World} {N j : Nat} {m : Gr} {v : Value} {xs xs' : List Int} (h : GrOk w N m) (hj : m.rows[j]? = some (v, xs)) (hg : w.grownBy w1 v.ownBlock)
    (hown : w1.ownsRow N 3 1 v xs'.length (ints xs')) : GrOk w1 N ⟨m.b, m.e, m.ov, m.rows.set j (v, xs')⟩ := by
  have hjl : j < m.rows.length := (List.getElem?_eq_some_iff.1 hj).1
  have hmem : (v, xs) ∈ m.rows := List.mem_of_getElem? hj
  have hget : ∀ i s, (m.rows.set j (v, xs'))[i]? = some s → (i = j ∧ s = (v, xs')) ∨ (i ≠ j ∧ m.rows[i]? = some s) := fun i s hi => by
    by_cases hij : i = j
    · subst hij
      rw [List.getElem?_set_self hjl] at hi
      exact .inl ⟨rfl, (Option.some.inj hi).symm⟩
    · rw [List.getElem?_set_ne (Ne.symm hij)] at hi
      exact .inr ⟨hij, hi⟩
  have hv1 : ∀ s ∈ m.rows.set j (v, xs'), ∃ s' ∈ m.rows, s'.1 = s.1 := fun s hs => by
    rcases List.mem_or_eq_of_mem_set hs with hs | rfl
    · exact ⟨s, hs, rfl⟩
    · exact ⟨_, hmem, rfl⟩
  refine ⟨h.base, h.blk.grown hg (fun e => h.rb _ hmem e.symm), ?_, ?_, h.ob, ?_, ?_, ?_⟩
  · have h1 : (m.rows.set j (v, xs')).length = m.rows.length := by simp
    have h2 : Gr.vals ⟨m.b, m.e, m.ov, m.rows.set j (v, xs')⟩ = m.vals := by
      simp only [Gr.vals, List.map_set]
      apply List.ext_getElem?
      intro i
      by_cases hij : i = j
      · subst hij
        rw [List.getElem?_set_self (by simpa using hjl)]
        simp [hj]
      · rw [List.getElem?_set_ne (Ne.symm hij)]
    show w1.ownsRow N 29 1 m.ov (m.rows.set j _).length _
    rw [h1, h2]
    exact ownsRow_keep h.outer (fun k hk => hg.block k (h.outer.lt k hk).2 (fun e => h.ro _ hmem k e.symm hk))
  · intro s hs
    obtain ⟨i, hi⟩ := List.getElem?_of_mem hs
    rcases hget i s hi with ⟨rfl, rfl⟩ | ⟨hij, hi⟩
    · exact hown
    · refine ownsRow_keep (h.row s (List.mem_of_getElem? hi)) (fun k hk => hg.block k ((h.row s (List.mem_of_getElem? hi)).lt k hk).2 (fun e => hij (h.rr i j s _ k hi hj hk e.symm)))
  · intro s hs
    obtain ⟨s', hs', e⟩ := hv1 s hs
    rw [← e]
    exact h.rb s' hs'
  · intro s hs
    obtain ⟨s', hs', e⟩ := hv1 s hs
    rw [← e]
    exact h.ro s' hs'
  · intro i i' s s' k hi hi' hs hs'
    have h1 : ∀ (i : Nat) (s : Value × List Int), (m.rows.set j (v, xs'))[i]? = some s → ∃ s0 : Value × List Int, m.rows[i]? = some s0 ∧ s0.1 = s.1 := fun i s hi => by
      rcases hget i s hi with ⟨rfl, rfl⟩ | ⟨_, hi⟩
      · exact ⟨_, hj, rfl⟩
      · exact ⟨s, hi, rfl⟩
    obtain ⟨a, ha, ea⟩ := h1 i s hi
    obtain ⟨b, hb, eb⟩ := h1 i' s' hi'
    exact h.rr i i' a b k ha hb (ea ▸ hs) (eb ▸ hs')

theorem Run.quo2 {P : Program} {e : List (Nat × Value)} {w : World} {dst : Option Nat} {ty T U : TypeId} {pos : String} {af : Array Edge} {g : Option (Nat × Bool)} {x y : Operand} {a : Int} (hx : ev e x = some (.int .i64 a)) (hy : ev e y = some (.int .i64 2)) (h0 : 0 ≤ a) (h1 : a ≤ 9000000000000000000) :
    Run P e ⟨dst, .binOp .quo T x y U, ty, pos, af, g⟩ w (.ok (.value (.int .i64 (a / 2))) w) := by
  intro ρ hρ
  have h2 : a.tdiv 2 = a / 2 := Int.tdiv_eq_ediv_of_nonneg h0
  have h3 := wrap_id (a := a / 2) (by omega) (by omega)
  simp [execOp, hρ _ _ hx, hρ _ _ hy, eqGuard, binOp, Op.intDiv, h2, h3]

def settleRow (xs : List Int) : List Int := Lib.compact (sorted xs)

theorem getD_setL {α : Type} (ls : List (List α)) (j v : Nat) (x : List α) (hj : j < ls.length) : (ls.set j x).getD v [] = if v = j then x else ls.getD v [] := by
  by_cases h : v = j
  · subst h
    simp [List.getD, hj]
  · simp [List.getD, List.getElem?_set_ne (Ne.symm h), h]

set_option maxRecDepth 100000
theorem settle_calls (w : World) (N : Nat) (m : Gr) (hm : GrOk w N m) (hN : N ≤ w.heap.size) (hL : ∀ r ∈ m.rows, r.2.length ≤ 1000000) (hn : m.rows.length ≤ 1000)
    (R : Ending → World → Prop) (hR : ∀ w' m', GrOk w' N m' → Upd w w' m.foot m'.foot → m'.b = m.b → m'.rows.length = m.rows.length → (∀ j, m'.lists.getD j [] = settleRow (m.lists.getD j [])) → R (.returned (.tuple #[])) w') :
    Calls Yba.prog 10 #[.pointer (some ⟨m.b, 0, none⟩)] w R := by
  refine calls (args := [_]) (m := 1) Yba.func10 rfl rfl rfl (by decide) ?_
  refine J.seq ?_
  refine J.region ?_    -- region 0
  refine JL.val (Run.move rfl) ?_    -- s4 := move t0
  refine JL.val (Run.nil rfl) ?_    -- s5 := nilCheck t4
  refine JL.val (Run.field fl36_1 rfl) ?_    -- s6 := field 36 t5 .1
  refine JL.eff (Run.store c3 rfl rfl rfl hm.blk (by simp)) ?_    -- sNone := store 3 [t6] := c:0:i64
  refine JL.to (fun _ _ h => h) ?_
  have hm0 : GrOk (Fw.stl w m.b (mkl m.ov 0)) N ⟨m.b, 0, m.ov, m.rows⟩ := hm.setE 0
  have hu0 : Upd w (Fw.stl w m.b (mkl m.ov 0)) m.foot (Gr.foot ⟨m.b, 0, m.ov, m.rows⟩) := (Upd.refl w m.foot).stl (.inl (.inl rfl)) _
  rw [show (mkl m.ov m.e).set (0 + 1) (.int .i64 0) = mkl m.ov 0 from rfl]
  have hs0 : (Fw.stl w m.b (mkl m.ov 0)).heap.size = w.heap.size := by simp
  generalize Fw.stl w m.b (mkl m.ov 0) = w0 at *
  obtain ⟨oa, oc, hov⟩ := ownsRow_slice hm.outer
  have hblk0 := hm0.blk
  simp only [hov] at hblk0
  refine J.seq ?_
  refine J.seq ?_
  refine J.region ?_    -- region 1
  refine JL.val (Run.move rfl) ?_    -- s7 := move t0
  refine JL.val (Run.nil rfl) ?_    -- s8 := nilCheck t7
  refine JL.val (Run.field fl36_0 rfl) ?_    -- s9 := field 36 t8 .0
  refine JL.val (Run.load t34 rfl (hblk0.cell rfl)) ?_    -- s10 := load 34 [t9]
  refine JL.val (Run.len Yba.underlying34 rfl) ?_    -- s11 := builtin Builtin.len(t10) [34]
  refine JL.val (Run.move rfl) ?_    -- s12 := move c:0:i64
  refine JL.to (fun _ _ h => h) ?_
  refine J.block ?_    -- block 0
  refine J.loop (ι := Nat × Gr) (fun i => [(0, .pointer (some ⟨m.b, 0, none⟩)), (10, .slice oa m.rows.length oc), (11, .int .i64 (m.rows.length : Int)), (12, .int .i64 (i.1 : Int))])
    (fun i w' => i.1 ≤ m.rows.length ∧ GrOk w' N i.2 ∧ Upd w w' m.foot i.2.foot ∧ i.2.b = m.b ∧ i.2.ov = m.ov ∧ i.2.rows.length = m.rows.length ∧ (∀ r ∈ i.2.rows, r.2.length ≤ 1000000) ∧
      (0 ≤ i.2.e ∧ i.2.e ≤ (i.1 : Int) * 1000000) ∧ ∀ j, i.2.lists.getD j [] = if j < i.1 then settleRow (m.lists.getD j []) else m.lists.getD j [])
    (fun i => m.rows.length - i.1) (0, ⟨m.b, 0, m.ov, m.rows⟩) ⟨rfl, rfl, rfl, rfl, trivial⟩ ⟨by omega, hm0, hu0, rfl, rfl, rfl, hL, by simp, fun j => by simp [Gr.lists]⟩ ?_
  clear hm0 hu0 hblk0
  rintro ⟨i, mb, me, mov, rows⟩ w1 ⟨hi, hok, hupd, hmb, hmov, hrl, hL1, ⟨he0, he1⟩, hls⟩
  simp only at hi hmb hmov hrl hL1 he0 he1
  subst hmb
  rw [hov] at hmov
  subst hmov
  have hsz1 : N ≤ w1.heap.size := Nat.le_trans hN hupd.size
  refine J.seq ?_
  refine J.region ?_    -- region 2
  refine JL.val (Run.lss rfl rfl) ?_    -- s13 := lss t12 t11
  refine JL.to (fun _ _ h => h) ?_
  refine J.seq ?_
  refine J.cond rfl (fun hc => ?_) (fun hc => ?_)    -- if t13
  · have hil : i < m.rows.length := by have := of_decide_eq_true hc; omega
    clear hc
    refine J.skipTo (fun _ _ h => h) ?_
    obtain ⟨og, oc2, hoa⟩ := ownsRow_some hok.outer (by simp only; omega)
    simp only [Value.slice.injEq] at hoa
    obtain ⟨rfl, _, rfl⟩ := hoa
    obtain ⟨⟨rv, xs⟩, hr⟩ : ∃ r, rows[i]? = some r := ⟨rows[i], List.getElem?_eq_getElem (by omega)⟩
    have hxl : xs.length ≤ 1000000 := hL1 _ (List.mem_of_getElem? hr)
    have hrow := hok.row _ (List.mem_of_getElem? hr)
    simp only at hrow
    have hcell : w1.cell? ⟨og, i, none⟩ = some rv := by
      have h := hok.outer
      simp only [hrl] at h
      exact ownsRow_cell h (by simp [Gr.vals, hr])
    refine J.seq ?_
    refine J.block ?_    -- block 1
    refine J.seq ?_
    refine J.region ?_    -- region 3
    refine JL.val (Run.move rfl) ?_    -- s14 := move t12
    refine JL.val (Run.index Yba.underlying34 c29 (by decide) rfl rfl hil) ?_    -- s15 := index 34 t10 [t12]
    refine JL.val (Run.load t29 rfl (by simpa using hcell)) ?_    -- s16 := load 29 [t15]
    refine JL.val (Run.assign rfl) ?_    -- s2 := assign t14
    refine JL.val (Run.assign rfl) ?_    -- s3 := assign t16
    refine JL.to (fun _ _ h => h) ?_
    refine J.seq ?_
    refine J.region ?_    -- region 4
    refine JL.val (Run.move rfl) ?_    -- s17 := move t3
    refine JL.call rfl Yba.func11 rfl rfl ?_    -- s18 := CALL f11(t17) [29]
    refine sort_calls w1 N rv xs hrow (by omega) _ ?_
    intro w2 hown2 hg2
    refine ⟨_, rfl, ?_⟩
    refine JL.to (fun _ _ h => h) ?_
    have hok2 : GrOk w2 N ⟨m.b, me, .slice (some ⟨og, 0, none⟩) m.rows.length oc, rows.set i (rv, sorted xs)⟩ := GrOk.turned hok hr hg2 (by rw [sorted_len]; exact hown2)
    have hupd2 : Upd w w2 m.foot (Gr.foot ⟨m.b, me, .slice (some ⟨og, 0, none⟩) m.rows.length oc, rows.set i (rv, sorted xs)⟩) :=
      hupd.grown hg2 (fun b hb => .inr (.inr ⟨_, List.mem_of_getElem? hr, hb⟩)) (Gr.foot_set (m := ⟨m.b, me, .slice (some ⟨og, 0, none⟩) m.rows.length oc, rows⟩) (v' := rv) (xs' := sorted xs) hr (fun b hb => .inl hb))
    have hr2 : (rows.set i (rv, sorted xs))[i]? = some (rv, sorted xs) := List.getElem?_set_self (by omega)
    have hsz2 : N ≤ w2.heap.size := Nat.le_trans hN hupd2.size
    refine J.seq ?_
    -- region 5 draws
    have hS : Blk w2.drew m.b 36 [.slice (some ⟨og, 0, none⟩) m.rows.length oc, .int .i64 me] := hok2.blk
    refine J.draw (fun x => Blk x m.b 36 [.slice (some ⟨og, 0, none⟩) m.rows.length oc, .int .i64 me]) 8 [(0, true), (1, true), (2, true), (3, true), (4, true), (5, true), (6, false), (7, true), (8, false)] (by kernel_rfl) (by kernel_rfl) ?_
    refine JS.take (i := 0) rfl hS (fun w' hw' => Run.move rfl) ?_    -- s19 := move t0
    refine JS.take (i := 1) rfl hS (fun w' hw' => Run.nil rfl) ?_    -- s20 := nilCheck t19
    refine JS.take (i := 2) rfl hS (fun w' hw' => Run.field fl36_0 rfl) ?_    -- s21 := field 36 t20 .0
    refine JS.take (i := 3) rfl hS (fun w' hw' => Run.load t34 rfl (hw'.cell rfl)) ?_    -- s22 := load 34 [t21]
    refine JS.take (i := 4) rfl hS (fun w' hw' => Run.move rfl) ?_    -- s23 := move t2
    refine JS.take (i := 5) rfl hS (fun w' hw' => Run.move rfl) ?_    -- s24 := move t3
    refine JS.call (i := 6) rfl rfl Yba.func12 rfl rfl ?_    -- s25 := CALL f12(t24) [29]
    have hrow2 := hok2.drew.row _ (List.mem_of_getElem? hr2)
    simp only at hrow2
    refine compact_calls w2.drew N rv (sorted xs) hrow2 (by rw [sorted_len]; omega) _ ?_
    intro w3 v3 hown3 hg3 hvb
    have hS3 : Blk w3 m.b 36 [.slice (some ⟨og, 0, none⟩) m.rows.length oc, .int .i64 me] := hS.grown hg3 (fun e => hok2.rb _ (List.mem_of_getElem? hr2) e.symm)
    refine ⟨_, rfl, fun _ => hS3, ?_⟩
    refine JS.take (i := 7) rfl hS3 (fun w' hw' => Run.index Yba.underlying34 c29 (by decide) rfl rfl hil) ?_    -- s26 := index 34 t22 [t23]
    obtain ⟨l, hl, hll, hok4⟩ := GrOk.setRow hok2.drew hr2 rfl hg3 hown3 (fun b hb => .inl (by rw [← hvb]; exact hb))
    obtain ⟨va, vc, hv3⟩ := ownsRow_slice hown3
    subst hv3
    refine JS.eff (i := 8) rfl (Run.store c29 rfl rfl rfl hl (by simpa using hll)) (fun h => absurd rfl h) ?_    -- sNone := store 29 [t26] := t25
    rw [show 0 + i * 1 = i by omega]
    simp only [List.set_set] at hok4
    have hupd4 : Upd w (Fw.stl w3 og (l.set i (.slice va (Lib.compact (sorted xs)).length vc))) m.foot (Gr.foot ⟨m.b, me, .slice (some ⟨og, 0, none⟩) m.rows.length oc, rows.set i (.slice va (Lib.compact (sorted xs)).length vc, Lib.compact (sorted xs))⟩) := by
      have h1 := hupd2.drew.grown (w' := w3) hg3 (fun b hb => .inr (.inr ⟨_, List.mem_of_getElem? hr2, hb⟩)) (Gr.foot_set (m := ⟨m.b, me, .slice (some ⟨og, 0, none⟩) m.rows.length oc, rows.set i (rv, sorted xs)⟩) (v' := .slice va (Lib.compact (sorted xs)).length vc) (xs' := Lib.compact (sorted xs)) hr2 (fun b hb => .inl (by rw [← hvb]; exact hb)))
      simp only [List.set_set] at h1
      exact h1.stl (.inl (.inr (.inl rfl))) _
    generalize Fw.stl w3 og (l.set i (.slice va (Lib.compact (sorted xs)).length vc)) = w4 at *
    refine JS.to (fun _ _ h => h) ?_
    have hcl : (Lib.compact (sorted xs)).length ≤ 1000000 := by have := compact_len (sorted xs); rw [sorted_len] at this; omega
    have hr4 : (rows.set i (.slice va (Lib.compact (sorted xs)).length vc, Lib.compact (sorted xs)))[i]? = some (.slice va (Lib.compact (sorted xs)).length vc, Lib.compact (sorted xs)) := List.getElem?_set_self (by omega)
    have hcell4 : w4.cell? ⟨og, i, none⟩ = some (.slice va (Lib.compact (sorted xs)).length vc) := by
      have h := hok4.outer
      simp only [List.length_set, hrl] at h
      exact ownsRow_cell h (by simp only [Gr.vals, List.getElem?_map, hr4]; rfl)
    -- region 6 draws
    have hS4 : Blk w4.drew m.b 36 [.slice (some ⟨og, 0, none⟩) m.rows.length oc, .int .i64 me] ∧ w4.drew.cell? ⟨og, i, none⟩ = some (.slice va (Lib.compact (sorted xs)).length vc) := ⟨hok4.blk, hcell4⟩
    refine J.draw (fun x => Blk x m.b 36 [.slice (some ⟨og, 0, none⟩) m.rows.length oc, .int .i64 me] ∧ x.cell? ⟨og, i, none⟩ = some (.slice va (Lib.compact (sorted xs)).length vc)) 15 [(0, true), (1, true), (2, true), (3, true), (4, true), (5, true), (6, true), (7, true), (8, true), (9, true), (10, true), (11, true), (12, true), (13, false), (14, true), (15, false)] (by kernel_rfl) (by kernel_rfl) ?_
    refine JS.take (i := 0) rfl hS4 (fun w' hw' => Run.move rfl) ?_    -- s27 := move t0
    refine JS.take (i := 1) rfl hS4 (fun w' hw' => Run.nil rfl) ?_    -- s28 := nilCheck t27
    refine JS.take (i := 2) rfl hS4 (fun w' hw' => Run.field fl36_1 rfl) ?_    -- s29 := field 36 t28 .1
    refine JS.take (i := 3) rfl hS4 (fun w' hw' => Run.load t3 rfl (hw'.1.cell rfl)) ?_    -- s30 := load 3 [t29]
    refine JS.take (i := 4) rfl hS4 (fun w' hw' => Run.move rfl) ?_    -- s31 := move t0
    refine JS.take (i := 5) rfl hS4 (fun w' hw' => Run.nil rfl) ?_    -- s32 := nilCheck t31
    refine JS.take (i := 6) rfl hS4 (fun w' hw' => Run.field fl36_0 rfl) ?_    -- s33 := field 36 t32 .0
    refine JS.take (i := 7) rfl hS4 (fun w' hw' => Run.load t34 rfl (hw'.1.cell rfl)) ?_    -- s34 := load 34 [t33]
    refine JS.take (i := 8) rfl hS4 (fun w' hw' => Run.move rfl) ?_    -- s35 := move t2
    refine JS.take (i := 9) rfl hS4 (fun w' hw' => Run.index Yba.underlying34 c29 (by decide) rfl rfl hil) ?_    -- s36 := index 34 t34 [t35]
    refine JS.take (i := 10) rfl hS4 (fun w' hw' => Run.load t29 rfl (by simpa using hw'.2)) ?_    -- s37 := load 29 [t36]
    refine JS.take (i := 11) rfl hS4 (fun w' hw' => Run.len Yba.underlying29 rfl) ?_    -- s38 := builtin Builtin.len(t37) [29]
    refine JS.take (i := 12) rfl hS4 (fun w' hw' => Run.add (c := me + ((Lib.compact (sorted xs)).length : Int)) rfl rfl (by omega) (by omega) (by omega)) ?_    -- s39 := add t30 t38
    refine JS.loud (i := 13) rfl (Run.nil rfl) (fun _ => hS4) ?_    -- s40 := nilCheck t27
    refine JS.take (i := 14) rfl hS4 (fun w' hw' => Run.field fl36_1 rfl) ?_    -- s41 := field 36 t40 .1
    refine JS.eff (i := 15) rfl (Run.store c3 rfl rfl rfl hS4.1 (by simp)) (fun h => absurd rfl h) ?_    -- sNone := store 3 [t41] := t39
    refine JS.to (fun _ _ h => h) ?_
    refine J.region ?_    -- region 7
    refine JL.val (Run.add (c := ((i + 1 : Nat) : Int)) rfl rfl (by omega) (by omega) (by omega)) ?_    -- s42 := add t12 c:1:i64
    refine JL.val (Run.move rfl) ?_    -- s12 := move t42
    refine JL.nil fun a ha => ⟨(i + 1, ⟨m.b, me + ((Lib.compact (sorted xs)).length : Int), .slice (some ⟨og, 0, none⟩) m.rows.length oc, rows.set i (.slice va (Lib.compact (sorted xs)).length vc, Lib.compact (sorted xs))⟩), by simp only; omega, ha.sub ⟨rfl, rfl, rfl, rfl, trivial⟩, by simp only; omega, hok4.drew.setE _, hupd4.drew.stl (.inl (.inl rfl)) _, rfl, hov.symm, by simpa using hrl, ?_, ?_, ?_⟩
    · intro r hr'
      rcases List.mem_or_eq_of_mem_set hr' with hr' | rfl
      · exact hL1 r hr'
      · exact hcl
    · simp only
      omega
    · intro j
      have h1 := hls j
      have h2 := hls i
      simp only at h1 h2
      have h3 : Gr.lists ⟨m.b, me + ((Lib.compact (sorted xs)).length : Int), .slice (some ⟨og, 0, none⟩) m.rows.length oc, rows.set i (.slice va (Lib.compact (sorted xs)).length vc, Lib.compact (sorted xs))⟩ = (Gr.lists ⟨m.b, me, .slice (some ⟨og, 0, none⟩) m.rows.length oc, rows⟩).set i (settleRow xs) := by
        simp [Gr.lists, List.map_set, settleRow]
      simp only
      rw [h3, getD_setL _ _ _ _ (by simp [Gr.lists]; omega)]
      have hxs : m.lists.getD i [] = xs := by
        rw [if_neg (by omega)] at h2
        rw [← h2]
        simp [Gr.lists, hr]
      by_cases hji : j = i
      · subst hji
        rw [if_pos rfl, if_pos (by omega), hxs]
      · rw [if_neg hji, h1]
        by_cases hj2 : j < i
        · rw [if_pos hj2, if_pos (by omega)]
        · rw [if_neg hj2, if_neg (by omega)]
  · have hil : i = m.rows.length := by have := of_decide_eq_false hc; omega
    refine J.exitTo (fun _ _ h => h) ?_    -- exit 0
    refine J.region ?_    -- region 8
    refine JL.val (Run.move rfl) ?_    -- s43 := move t0
    refine JL.val (Run.nil rfl) ?_    -- s44 := nilCheck t43
    refine JL.val (Run.field fl36_1 rfl) ?_    -- s45 := field 36 t44 .1
    refine JL.val (Run.load t3 rfl (hok.blk.cell rfl)) ?_    -- s46 := load 3 [t45]
    refine JL.val (Run.quo2 (a := me) rfl rfl he0 (by omega)) ?_    -- s47 := quo t46 c:2:i64
    refine JL.val (Run.nil rfl) ?_    -- s48 := nilCheck t43
    refine JL.val (Run.field fl36_1 rfl) ?_    -- s49 := field 36 t48 .1
    refine JL.eff (Run.store c3 rfl rfl rfl hok.blk (by simp)) ?_    -- sNone := store 3 [t49] := t47
    refine JL.nil ?_
    refine fall0 Yba.f10 R rfl ?_
    refine hR _ _ (hok.setE _) (hupd.stl (.inl (.inl rfl)) _) rfl hrl (fun j => ?_)
    have h1 := hls j
    simp only at h1
    show (Gr.lists _).getD j [] = _
    by_cases hj : j < i
    · rw [if_pos hj] at h1
      exact h1
    · rw [if_neg hj] at h1
      have h2 : m.lists.getD j [] = [] := by simp [List.getD, List.getElem?_eq_none (show m.lists.length ≤ j by simp [Gr.lists]; omega)]
      rw [h2] at h1 ⊢
      rw [show settleRow [] = [] from by simp [settleRow, sorted, Lib.compact, Lib.compactUpTo]]
      exact h1
end Go.Proofs.Ybulkpka
