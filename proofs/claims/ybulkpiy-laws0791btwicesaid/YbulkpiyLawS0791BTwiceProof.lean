/-
  LawS0791BTwice: the law returns true at every input. The frame is the guide's template turned to this row; the walks are ours.
-/
import Derived.Test.YbulkpiyOpen
namespace Go.Proofs.Ybulkpiy.lawS0791BTwice
open Go.ChangeShapes Go.WideShapes Go.ChangeAt Go.RowKit Go.Fw

set_option maxRecDepth 100000 in
theorem lifted (os : Os) (started : os.Started) (H : Type) (enc : TypeId × Value → H) :
    ReturnsInHanded {} Yba.checked os 4 .any (Rows.lawS0791BTwiceSpec.pre6 enc Yba.prog Yba.f4 Rows.lawS0791BTwiceRow.domain false) (Rows.lawS0791BTwiceSpec.post enc Yba.prog Yba.f4 false true false false) := by
  refine returnsInHanded_of_change_sized (C := Yba.checked) own started (by kernel_rfl) Yba.func4
    (ChangeSpec.witness6 (enc := enc) (C := Yba.checked) false ⟨#[], #[.slice none 0 0, .slice none 0 0], []⟩ 8 (by kernel_rfl) (by kernel_rfl) (by kernel_rfl) (by kernel_rfl)) ?_
  intro W base args ds gs before hval0 hW hcnd hsz0 _
  have hval : ∀ (j : Nat) t v, Yba.f4.params[j]? = some t → args[j]? = some v → Value.okWide Yba.prog W .any base t v := hval0
  have hsz : (DataW.weightsEach Yba.prog (Yba.f4.params.toList ++ Rows.lawS0791BTwiceSpec.plain.varTypes Yba.prog) (ds ++ gs)).all (· ≤ reachBytes) = true := hsz0
  have hW' := hW
  obtain ⟨p, q, hA0, hV, rfl, hfz, hnd⟩ := hW
  have hA : DataW.TrodAll enc Yba.prog W 0 (fun _ => true) true Yba.f4.params.toList args.toList ds p := hA0
  rw [Yba.params4] at hA hval hsz
  obtain ⟨v0, v1, d0, d1, p0, p1, hargs, rfl, rfl, h0, h1⟩ := trodAll_two hA
  obtain rfl : args = #[v0, v1] := by cases args; simp_all
  obtain ⟨rfl, rfl⟩ := trodVars_none hV
  clear hA0 hval0
  simp only [List.append_nil] at hW'
  have hlt : ∀ x ∈ p0 ++ p1, x.block < W.heap.size := fun x hx => by simpa using hW'.lt x hx
  have w0 : ∀ n ∈ d0.weights Yba.prog 22, n ≤ reachBytes := fun n hn => by
    have := List.all_eq_true.1 hsz n (DataW.weights_mem_each (j := 0) rfl rfl n hn)
    simpa using this
  obtain ⟨a0, len0, cap0, e0⟩ := okWide_slice Yba.underlying22 (hval 0 22 v0 rfl rfl)
  obtain ⟨a1, len1, cap1, e1⟩ := okWide_slice Yba.underlying23 (hval 1 23 v1 rfl rfl)
  have h0k := h0
  have h1k := h1
  obtain ⟨f0, t0⟩ := h0
  obtain ⟨f1, t1⟩ := h1
  obtain ⟨u0, fs, g0, hfs, hfl⟩ := fs_open t0 w0
  obtain ⟨u1, prior, g1, hpr, _⟩ := u8s_open t1
  obtain rfl : v0 = u0 := by rw [e0] at g0 ⊢; simpa [Value.cells] using g0
  obtain rfl : v1 = u1 := by rw [e1] at g1 ⊢; simpa [Value.cells] using g1
  refine (twice_law W v0 v1 fs prior hfs hpr hfl).mono fun e W' ⟨he, hb⟩ => ?_
  subst he
  refine ⟨_, rfl, _, _, _, [], p0 ++ p1, [], hW', ?_, ?_, rfl, hb.frame _, fun h => by cases h⟩
  · exact trodAll_cons_mk (shut_bool Yba.underlying4 _) trodAll_mk0
  · exact trodAll_mk2 (Below.trod laidOut (by kernel_rfl) (of_decide_eq_true (by kernel_rfl)) h0k hb (fun x hx => hlt x (List.mem_append_left _ hx)))
      (Below.trod laidOut (by kernel_rfl) (of_decide_eq_true (by kernel_rfl)) h1k hb (fun x hx => hlt x (List.mem_append_right _ hx)))

theorem over : Rows.lawS0791BTwiceRow.holds Yba.pinned (OpenSpec.ofChange Rows.lawS0791BTwiceSpec) :=
  OpenClaim.holds_of_wide 4 Yba.f4 rfl rfl rfl rfl rfl rfl rfl ⟨rfl, rfl, rfl, rfl, rfl⟩ rfl rfl rfl rfl rfl (by kernel_rfl) Yba.func4 (by kernel_rfl)
    (of_decide_eq_true (by kernel_rfl)) (by unfold Func.isWrapper; first | (rw [if_pos (by decide +kernel)]; kernel_rfl) | (rw [if_neg (by decide +kernel)]; exact ⟨rfl, rfl⟩))
    (fun os started H enc _ => lifted os started H enc)

/-- THE STATEMENT -/
theorem proved : Rows.LawS0791BTwiceSaid :=
  over
end Go.Proofs.Ybulkpiy.lawS0791BTwice
