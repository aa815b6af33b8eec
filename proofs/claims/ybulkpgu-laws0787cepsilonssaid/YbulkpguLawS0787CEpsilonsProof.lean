/-
  LawS0787CEpsilons: the law returns true at every input. The frame is the guide's template turned to this row; the walks are ours.
-/
import Derived.Test.YbulkpguOpen
namespace Go.Proofs.Ybulkpgu.lawS0787CEpsilons
open Go.ChangeShapes Go.WideShapes Go.ChangeAt Go.RowKit Go.Fw

set_option maxRecDepth 100000 in
theorem lifted (os : Os) (started : os.Started) (H : Type) (enc : TypeId × Value → H) :
    ReturnsInHanded {} Yba.checked os 6 .any (Rows.lawS0787CEpsilonsSpec.pre6 enc Yba.prog Yba.f6 Rows.lawS0787CEpsilonsRow.domain false) (Rows.lawS0787CEpsilonsSpec.post enc Yba.prog Yba.f6 false true false false) := by
  refine returnsInHanded_of_change (C := Yba.checked) own started (by kernel_rfl) Yba.func6
    (ChangeSpec.witness6 (enc := enc) (C := Yba.checked) false ⟨#[], #[.slice none 0 0, .slice none 0 0, .int .u8 0, .bool false], []⟩ 8 (by kernel_rfl) (by kernel_rfl) (by kernel_rfl) (by kernel_rfl)) ?_
  intro W base args ds gs before hval0 hW hcnd _
  have hval : ∀ (j : Nat) t v, Yba.f6.params[j]? = some t → args[j]? = some v → Value.okWide Yba.prog W .any base t v := hval0
  have hW' := hW
  obtain ⟨p, q, hA0, hV, rfl, hfz, hnd⟩ := hW
  have hA : DataW.TrodAll enc Yba.prog W 0 (fun _ => true) true Yba.f6.params.toList args.toList ds p := hA0
  rw [Yba.params6] at hA hval
  obtain ⟨v0, v1, v2, v3, d0, d1, d2, d3, p0, p1, p2, p3, rfl, rfl, rfl, h0, h1, h2, h3⟩ := trodAll_four hA
  obtain ⟨rfl, rfl⟩ := trodVars_none hV
  clear hA0 hval0
  simp only [List.append_nil] at hW'
  obtain ⟨a0, len0, cap0, e0⟩ := okWide_slice Yba.underlying39 (hval 0 39 v0 rfl rfl)
  obtain ⟨a1, len1, cap1, e1⟩ := okWide_slice Yba.underlying39 (hval 1 39 v1 rfl rfl)
  have h0k := h0
  have h1k := h1
  obtain ⟨z2, rfl, rfl, rfl, w2⟩ := open_int Yba.underlying5 (hval 2 5 v2 rfl rfl) h2
  obtain ⟨b3, rfl, rfl, rfl⟩ := open_bool Yba.underlying4 (hval 3 4 v3 rfl rfl) h3
  obtain ⟨f0, t0⟩ := h0
  obtain ⟨u0, X, g0, hX⟩ := bls_open t0
  obtain rfl : v0 = u0 := by rw [e0] at g0 ⊢; simpa [Value.cells] using g0
  obtain ⟨f1, t1⟩ := h1
  obtain ⟨u1, Y, g1, hY⟩ := bls_open t1
  obtain rfl : v1 = u1 := by rw [e1] at g1 ⊢; simpa [Value.cells] using g1
  simp only [List.append_nil] at hW'
  have hlt : ∀ x ∈ p0 ++ p1, x.block < W.heap.size := fun x hx => hW'.lt x (by simpa using hx)
  have b2 := bounds_u8 w2
  obtain ⟨mm, rfl⟩ : ∃ mm : Nat, z2 = (mm : Int) := ⟨z2.toNat, by omega⟩
  refine (law_calls W v0 v1 X Y mm b3 hX hY (by omega)).mono fun e W' ⟨he, hb⟩ => ?_
  subst he
  rw [show p0 ++ p1 = p0 ++ (p1 ++ ([] ++ [])) by simp] at hW'
  refine ⟨_, rfl, _, _, _, [], p0 ++ (p1 ++ ([] ++ [])), [], hW', ?_, ?_, rfl, hb.frame _, fun h => by cases h⟩
  · exact trodAll_cons_mk (shut_bool Yba.underlying4 _) trodAll_mk0
  · exact trodAll_mk4 (Below.trod laidOut (by kernel_rfl) (of_decide_eq_true (by kernel_rfl)) h0k hb (fun x hx => hlt x (by simp [hx]))) (Below.trod laidOut (by kernel_rfl) (of_decide_eq_true (by kernel_rfl)) h1k hb (fun x hx => hlt x (by simp [hx]))) (shut_int Yba.underlying5 w2) (shut_bool Yba.underlying4 b3)

theorem over : Rows.lawS0787CEpsilonsRow.holds Yba.pinned (OpenSpec.ofChange Rows.lawS0787CEpsilonsSpec) :=
  OpenClaim.holds_of_wide 6 Yba.f6 rfl rfl rfl rfl rfl rfl rfl ⟨rfl, rfl, rfl, rfl, rfl⟩ rfl rfl rfl rfl rfl (by kernel_rfl) Yba.func6 (by kernel_rfl)
    (of_decide_eq_true (by kernel_rfl)) (by unfold Func.isWrapper; first | (rw [if_pos (by decide +kernel)]; kernel_rfl) | (rw [if_neg (by decide +kernel)]; exact ⟨rfl, rfl⟩))
    (fun os started H enc _ => lifted os started H enc)

/-- THE STATEMENT -/
theorem proved : Rows.LawS0787CEpsilonsSaid :=
  over
end Go.Proofs.Ybulkpgu.lawS0787CEpsilons
