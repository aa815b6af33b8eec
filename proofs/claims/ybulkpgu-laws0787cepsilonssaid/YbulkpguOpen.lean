/-
  What the arguments of the laws hold: opened.
-/
import Derived.Test.YbulkpguRows
import Derived.Test.YbulkpguLaw
import Derived.WalkKit
import Derived.ProofKit
import Derived.OpenShut
import Derived.Carry
import Derived.Deep.Slices
namespace Go.Proofs.Ybulkpgu
open Go.ChangeShapes Go.WideShapes Go.ChangeAt Go.RowKit Go.Fw

theorem own : ownKnob Yba.prog.godebug = none := by kernel_rfl
theorem laidOut : laidOutB Yba.prog = true := by kernel_rfl

section
variable {H : Type} {enc : TypeId × Value → H} {W : World}

theorem bls_open {fuel : Nat} {cs : List Value} {x : DataW H × List MemPlace} (h : DataW.trod enc Yba.prog W 0 (fun _ => true) true fuel 39 cs = some x) :
    ∃ v bs, cs = [v] ∧ Bls W v bs := by
  rcases Go.Deep.open_slice1 Yba.underlying39 c4 h with ⟨rfl, rfl⟩ | ⟨a, len, cap, m, n, V, D, Pl, rfl, _, hl, hm, hmm, rfl, hx⟩
  · exact ⟨_, [], rfl, none, 0, rfl, by simp⟩
  simp only [if_true] at hmm
  have each : ∀ i, i < len → ∃ q : Bool, W.cell? (a.add i) = some (.bool q) := by
    intro i hi
    obtain ⟨c0, t0⟩ := hx i (by omega)
    obtain ⟨b, e, _⟩ := DataW.trod_bool Yba.underlying4 t0
    simp only [List.cons.injEq, and_true] at e
    exact ⟨b, by rw [c0, e]⟩
  obtain ⟨q, hq⟩ := Go.Deep.choose_lt each
  refine ⟨_, (List.range len).map q, rfl, some a, cap, by simp, ?_⟩
  intro i e he
  rw [List.getElem?_map] at he
  obtain ⟨j, hj, rfl⟩ := Option.map_eq_some_iff.1 he
  have hij : j = i ∧ i < len := by
    rw [List.getElem?_eq_some_iff] at hj
    obtain ⟨h1, h2⟩ := hj
    simp at h1 h2
    exact ⟨h2.symm, h1⟩
  obtain ⟨rfl, hi⟩ := hij
  have k0 := hq j hi
  obtain ⟨b, o, s⟩ := a
  have hs : s = none := by
    have := World.cell?_spot (hq 0 (by omega))
    simpa [Addr.add] using this
  subst hs
  exact ⟨b, o, rfl, by rw [add_plain] at k0; exact k0⟩
end
end Go.Proofs.Ybulkpgu
