/-
  What the arguments of the laws hold: opened once for both.
-/
import Derived.Test.YbulkpkaRows
import Derived.Test.YbulkpkaLaws
import Derived.WalkKit
import Derived.ProofKit
import Derived.OpenShut
import Derived.Carry
import Derived.Deep.Slices
namespace Go.Proofs.Ybulkpka
open Go.ChangeShapes Go.WideShapes Go.ChangeAt Go.RowKit Go.Fw

theorem own : ownKnob Yba.prog.godebug = none := by kernel_rfl
theorem laidOut : laidOutB Yba.prog = true := by kernel_rfl

section
variable {H : Type} {enc : TypeId × Value → H} {W : World}

theorem eds_open {fuel : Nat} {cs : List Value} {x : DataW H × List MemPlace} (h : DataW.trod enc Yba.prog W 0 (fun _ => true) true fuel 22 cs = some x) :
    ∃ v es, cs = [v] ∧ Eds W v es := by
  rcases Go.Deep.open_slice Yba.underlying22 h with ⟨rfl, rfl⟩ | ⟨a, len, cap, m, n, D, Pl, rfl, _, hl, hm, hmm, rfl, hx⟩
  · exact ⟨_, [], rfl, none, 0, rfl, by simp⟩
  simp only [if_true] at hmm
  rw [c30] at hx
  have each : ∀ i, i < len → ∃ q : Nat × Nat, q.1 < 256 ∧ q.2 < 256 ∧ W.cell? ((a.add (i * 2)).add 0) = some (.int .u8 ((q.1 : Nat) : Int)) ∧ W.cell? ((a.add (i * 2)).add 1) = some (.int .u8 ((q.2 : Nat) : Int)) := by
    intro i hi
    obtain ⟨cs', hcs, ht⟩ := hx i (by omega)
    obtain ⟨_, hlen, hcell⟩ := World.cells?_some hcs
    obtain ⟨xs, k, _, _, _, hxl, hf⟩ := DataW.trod_array Yba.underlying30 ht
    rw [c5] at hf
    match cs', hlen with
    | [v0, v1], _ =>
      match xs, hxl with
      | [y0, y1], _ =>
        have g0 := hf 0 (by omega)
        have g1 := hf 1 (by omega)
        simp at g0 g1
        obtain ⟨z0, e0, _, w0⟩ := DataW.trod_int Yba.underlying5 g0
        obtain ⟨z1, e1, _, w1⟩ := DataW.trod_int Yba.underlying5 g1
        simp only [List.cons.injEq, and_true] at e0 e1
        subst e0
        subst e1
        have b0 := bounds_u8 w0
        have b1 := bounds_u8 w1
        have f0 := hcell 0 (by omega)
        have f1 := hcell 1 (by omega)
        refine ⟨(z0.toNat, z1.toNat), by show z0.toNat < 256; omega, by show z1.toNat < 256; omega, ?_, ?_⟩
        · rw [f0]
          show some (Value.int .u8 z0) = some (Value.int .u8 ((z0.toNat : Nat) : Int))
          rw [Int.toNat_of_nonneg b0.1]
        · rw [f1]
          show some (Value.int .u8 z1) = some (Value.int .u8 ((z1.toNat : Nat) : Int))
          rw [Int.toNat_of_nonneg b1.1]
  obtain ⟨q, hq⟩ := Go.Deep.choose_lt each
  refine ⟨_, (List.range len).map q, rfl, some a, cap, by simp, ?_⟩
  intro i e he
  rw [List.getElem?_map] at he
  obtain ⟨j, hj, rfl⟩ := Option.map_eq_some_iff.1 he
  have hij : j = i ∧ i < len := by
    rw [List.getElem?_eq_some_iff] at hj
    obtain ⟨h1, h2⟩ := hj
    simp at h1 h2
    exact ⟨h2.symm, h1⟩
  obtain ⟨rfl, hi⟩ := hij
  obtain ⟨q0, q1, k0, k1⟩ := hq j hi
  obtain ⟨b, o, s⟩ := a
  have hs : s = none := by
    have := World.cell?_spot (hq 0 (by omega)).2.2.1
    simpa [Addr.add] using this
  subst hs
  refine ⟨q0, q1, b, o, rfl, ?_, ?_⟩
  · rw [add_plain, add_plain] at k0
    exact k0
  · rw [add_plain, add_plain] at k1
    exact k1

theorem bls_open {fuel : Nat} {cs : List Value} {x : DataW H × List MemPlace} (h : DataW.trod enc Yba.prog W 0 (fun _ => true) true fuel 25 cs = some x) :
    ∃ v bs, cs = [v] ∧ Bls W v bs := by
  rcases Go.Deep.open_slice1 Yba.underlying25 c4 h with ⟨rfl, rfl⟩ | ⟨a, len, cap, m, n, V, D, Pl, rfl, _, hl, hm, hmm, rfl, hx⟩
  · exact ⟨_, [], rfl, none, 0, rfl, by simp⟩
  simp only [if_true] at hmm
  have each : ∀ i, i < len → ∃ q : Bool, W.cell? (a.add i) = some (.bool q) := by
    intro i hi
    obtain ⟨c0, t0⟩ := hx i (by omega)
    obtain ⟨b, e, _⟩ := DataW.trod_bool Yba.underlying4 t0
    simp only [List.cons.injEq, and_true] at e
    exact ⟨b, by rw [c0, e]⟩
  obtain ⟨q, hq⟩ := Go.Deep.choose_lt each
  refine ⟨_, (List.range len).map q, rfl, some a, cap, by simp, ?_⟩
  intro i e he
  rw [List.getElem?_map] at he
  obtain ⟨j, hj, rfl⟩ := Option.map_eq_some_iff.1 he
  have hij : j = i ∧ i < len := by
    rw [List.getElem?_eq_some_iff] at hj
    obtain ⟨h1, h2⟩ := hj
    simp at h1 h2
    exact ⟨h2.symm, h1⟩
  obtain ⟨rfl, hi⟩ := hij
  have k0 := hq j hi
  obtain ⟨b, o, s⟩ := a
  have hs : s = none := by
    have := World.cell?_spot (hq 0 (by omega))
    simpa [Addr.add] using this
  subst hs
  exact ⟨b, o, rfl, by rw [add_plain] at k0; exact k0⟩
end
end Go.Proofs.Ybulkpka
