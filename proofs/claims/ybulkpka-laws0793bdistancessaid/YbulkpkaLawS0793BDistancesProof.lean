/-
  LawS0793BDistances: the law returns true at every input. The frame is the guide's template turned to this row; the walks are ours.
-/
import Derived.Test.YbulkpkaOpen
namespace Go.Proofs.Ybulkpka.lawS0793BDistances
open Go.ChangeShapes Go.WideShapes Go.ChangeAt Go.RowKit Go.Fw

set_option maxRecDepth 100000 in
theorem lifted (os : Os) (started : os.Started) (H : Type) (enc : TypeId × Value → H) :
    ReturnsInHanded {} Yba.checked os 3 .any (Rows.lawS0793BDistancesSpec.pre6 enc Yba.prog Yba.f3 Rows.lawS0793BDistancesRow.domain false) (Rows.lawS0793BDistancesSpec.post enc Yba.prog Yba.f3 false true false false) := by
  refine returnsInHanded_of_change (C := Yba.checked) own started (by kernel_rfl) Yba.func3
    (ChangeSpec.witness6 (enc := enc) (C := Yba.checked) false ⟨#[], #[.int .u8 0, .int .u8 0, .slice none 0 0], []⟩ 8 (by kernel_rfl) (by kernel_rfl) (by kernel_rfl) (by kernel_rfl)) ?_
  intro W base args ds gs before hval0 hW hcnd _
  have hval : ∀ (j : Nat) t v, Yba.f3.params[j]? = some t → args[j]? = some v → Value.okWide Yba.prog W .any base t v := hval0
  have hW' := hW
  obtain ⟨p, q, hA0, hV, rfl, hfz, hnd⟩ := hW
  have hA : DataW.TrodAll enc Yba.prog W 0 (fun _ => true) true Yba.f3.params.toList args.toList ds p := hA0
  rw [Yba.params3] at hA hval
  obtain ⟨v0, v1, v2, d0, d1, d2, p0, p1, p2, rfl, rfl, rfl, h0, h1, h2⟩ := trodAll_three hA
  obtain ⟨rfl, rfl⟩ := trodVars_none hV
  clear hA0 hval0
  simp only [List.append_nil] at hW'
  obtain ⟨a2, len2, cap2, e2⟩ := okWide_slice Yba.underlying22 (hval 2 22 v2 rfl rfl)
  have h0k := h0
  have h1k := h1
  have h2k := h2
  obtain ⟨z0, rfl, rfl, rfl, w0⟩ := open_int Yba.underlying5 (hval 0 5 v0 rfl rfl) h0
  obtain ⟨z1, rfl, rfl, rfl, w1⟩ := open_int Yba.underlying5 (hval 1 5 v1 rfl rfl) h1
  obtain ⟨f2, t2⟩ := h2
  obtain ⟨u2, es, g2, hes⟩ := eds_open t2
  obtain rfl : v2 = u2 := by rw [e2] at g2 ⊢; simpa [Value.cells] using g2
  have hlt : ∀ x ∈ p2, x.block < W.heap.size := fun x hx => hW'.lt x (by simpa using hx)
  have b0 := bounds_u8 w0
  have b1 := bounds_u8 w1
  obtain ⟨nn, rfl⟩ : ∃ nn : Nat, z0 = (nn : Int) := ⟨z0.toNat, by omega⟩
  obtain ⟨ff, rfl⟩ : ∃ ff : Nat, z1 = (ff : Int) := ⟨z1.toNat, by omega⟩
  refine (distances_law W nn ff v2 es (by omega) (by omega) hes).mono fun e W' ⟨he, hb⟩ => ?_
  subst he
  refine ⟨_, rfl, _, _, _, [], p2, [], hW', ?_, ?_, rfl, hb.frame _, fun h => by cases h⟩
  · exact trodAll_cons_mk (shut_bool Yba.underlying4 _) trodAll_mk0
  · exact trodAll_mk3 (shut_int Yba.underlying5 w0) (shut_int Yba.underlying5 w1) (Below.trod laidOut (by kernel_rfl) (of_decide_eq_true (by kernel_rfl)) h2k hb (fun x hx => hlt x (by simpa using hx)))

theorem over : Rows.lawS0793BDistancesRow.holds Yba.pinned (OpenSpec.ofChange Rows.lawS0793BDistancesSpec) :=
  OpenClaim.holds_of_wide 3 Yba.f3 rfl rfl rfl rfl rfl rfl rfl ⟨rfl, rfl, rfl, rfl, rfl⟩ rfl rfl rfl rfl rfl (by kernel_rfl) Yba.func3 (by kernel_rfl)
    (of_decide_eq_true (by kernel_rfl)) (by unfold Func.isWrapper; first | (rw [if_pos (by decide +kernel)]; kernel_rfl) | (rw [if_neg (by decide +kernel)]; exact ⟨rfl, rfl⟩))
    (fun os started H enc _ => lifted os started H enc)

/-- THE STATEMENT -/
theorem proved : Rows.LawS0793BDistancesSaid :=
  over
end Go.Proofs.Ybulkpka.lawS0793BDistances
