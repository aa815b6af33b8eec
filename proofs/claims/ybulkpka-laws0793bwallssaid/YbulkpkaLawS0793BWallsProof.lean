/-
  LawS0793BWalls: the law returns true at every input. The frame is the guide's template turned to this row; the walks are ours.
-/
import Derived.Test.YbulkpkaOpen
namespace Go.Proofs.Ybulkpka.lawS0793BWalls
open Go.ChangeShapes Go.WideShapes Go.ChangeAt Go.RowKit Go.Fw

set_option maxRecDepth 100000 in
theorem lifted (os : Os) (started : os.Started) (H : Type) (enc : TypeId × Value → H) :
    ReturnsInHanded {} Yba.checked os 4 .any (Rows.lawS0793BWallsSpec.pre6 enc Yba.prog Yba.f4 Rows.lawS0793BWallsRow.domain false) (Rows.lawS0793BWallsSpec.post enc Yba.prog Yba.f4 false true false false) := by
  refine returnsInHanded_of_change (C := Yba.checked) own started (by kernel_rfl) Yba.func4
    (ChangeSpec.witness6 (enc := enc) (C := Yba.checked) false ⟨#[], #[.int .u8 0, .int .u8 0, .slice none 0 0, .slice none 0 0], []⟩ 8 (by kernel_rfl) (by kernel_rfl) (by kernel_rfl) (by kernel_rfl)) ?_
  intro W base args ds gs before hval0 hW hcnd _
  have hval : ∀ (j : Nat) t v, Yba.f4.params[j]? = some t → args[j]? = some v → Value.okWide Yba.prog W .any base t v := hval0
  have hW' := hW
  obtain ⟨p, q, hA0, hV, rfl, hfz, hnd⟩ := hW
  have hA : DataW.TrodAll enc Yba.prog W 0 (fun _ => true) true Yba.f4.params.toList args.toList ds p := hA0
  rw [Yba.params4] at hA hval
  obtain ⟨v0, v1, v2, v3, d0, d1, d2, d3, p0, p1, p2, p3, rfl, rfl, rfl, h0, h1, h2, h3⟩ := trodAll_four hA
  obtain ⟨rfl, rfl⟩ := trodVars_none hV
  clear hA0 hval0
  simp only [List.append_nil] at hW'
  obtain ⟨a2, len2, cap2, e2⟩ := okWide_slice Yba.underlying22 (hval 2 22 v2 rfl rfl)
  obtain ⟨a3, len3, cap3, e3⟩ := okWide_slice Yba.underlying25 (hval 3 25 v3 rfl rfl)
  have h3k := h3
  have h0k := h0
  have h1k := h1
  have h2k := h2
  obtain ⟨z0, rfl, rfl, rfl, w0⟩ := open_int Yba.underlying5 (hval 0 5 v0 rfl rfl) h0
  obtain ⟨z1, rfl, rfl, rfl, w1⟩ := open_int Yba.underlying5 (hval 1 5 v1 rfl rfl) h1
  obtain ⟨f2, t2⟩ := h2
  obtain ⟨u2, es, g2, hes⟩ := eds_open t2
  obtain rfl : v2 = u2 := by rw [e2] at g2 ⊢; simpa [Value.cells] using g2
  have hlt : ∀ x ∈ p2 ++ p3, x.block < W.heap.size := fun x hx => hW'.lt x (by simpa using hx)
  obtain ⟨f3, t3⟩ := h3
  obtain ⟨u3, bs, g3, hbs⟩ := bls_open t3
  obtain rfl : v3 = u3 := by rw [e3] at g3 ⊢; simpa [Value.cells] using g3
  have b0 := bounds_u8 w0
  have b1 := bounds_u8 w1
  obtain ⟨nn, rfl⟩ : ∃ nn : Nat, z0 = (nn : Int) := ⟨z0.toNat, by omega⟩
  obtain ⟨ff, rfl⟩ : ∃ ff : Nat, z1 = (ff : Int) := ⟨z1.toNat, by omega⟩
  refine (walls_law W nn ff v2 v3 es bs (by omega) (by omega) hes hbs).mono fun e W' ⟨he, hb⟩ => ?_
  subst he
  refine ⟨_, rfl, _, _, _, [], p2 ++ p3, [], hW', ?_, ?_, rfl, hb.frame _, fun h => by cases h⟩
  · exact trodAll_cons_mk (shut_bool Yba.underlying4 _) trodAll_mk0
  · exact trodAll_mk4 (shut_int Yba.underlying5 w0) (shut_int Yba.underlying5 w1) (Below.trod laidOut (by kernel_rfl) (of_decide_eq_true (by kernel_rfl)) h2k hb (fun x hx => hlt x (by simp [hx]))) (Below.trod laidOut (by kernel_rfl) (of_decide_eq_true (by kernel_rfl)) h3k hb (fun x hx => hlt x (by simp [hx])))

theorem over : Rows.lawS0793BWallsRow.holds Yba.pinned (OpenSpec.ofChange Rows.lawS0793BWallsSpec) :=
  OpenClaim.holds_of_wide 4 Yba.f4 rfl rfl rfl rfl rfl rfl rfl ⟨rfl, rfl, rfl, rfl, rfl⟩ rfl rfl rfl rfl rfl (by kernel_rfl) Yba.func4 (by kernel_rfl)
    (of_decide_eq_true (by kernel_rfl)) (by unfold Func.isWrapper; first | (rw [if_pos (by decide +kernel)]; kernel_rfl) | (rw [if_neg (by decide +kernel)]; exact ⟨rfl, rfl⟩))
    (fun os started H enc _ => lifted os started H enc)

/-- THE STATEMENT -/
theorem proved : Rows.LawS0793BWallsSaid :=
  over
end Go.Proofs.Ybulkpka.lawS0793BWalls
