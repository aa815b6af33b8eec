/-
  What the two arguments of the laws hold: opened once for both.
-/
import Derived.Test.YbulkpiyRows
import Derived.Test.YbulkpiyLaws
import Derived.WalkKit
import Derived.ProofKit
import Derived.OpenShut
import Derived.SizedLaws
import Derived.Carry
import Derived.Deep.SlicePairs
namespace Go.Proofs.Ybulkpiy
open Go.ChangeShapes Go.WideShapes Go.ChangeAt Go.RowKit Go.Fw

theorem own : ownKnob Yba.prog.godebug = none := by kernel_rfl
theorem laidOut : laidOutB Yba.prog = true := by kernel_rfl
theorem bytes5 : Yba.prog.bytesOf 5 = 1 := by kernel_rfl

section
variable {H : Type} {enc : TypeId × Value → H} {W : World}

theorem u8s_open {fuel : Nat} {cs : List Value} {x : DataW H × List MemPlace} (h : DataW.trod enc Yba.prog W 0 (fun _ => true) true fuel 23 cs = some x) :
    ∃ v xs, cs = [v] ∧ U8s W v xs ∧ ((∀ n ∈ x.1.weights Yba.prog 23, n ≤ reachBytes) → xs.length ≤ 1000000000000000) := by
  rcases open_ints Yba.underlying23 Yba.underlying5 (by kernel_rfl) h with ⟨rfl, rfl⟩ | ⟨a, len, cap, zs, rfl, _, hl, hm, hz, rfl, hcell, hwz⟩
  · exact ⟨_, [], rfl, ⟨by simp, none, 0, rfl, by simp⟩, by simp⟩
  simp only [if_true] at hz
  refine ⟨_, (zs.take len).map Int.toNat, rfl, ⟨?_, some a, cap, by simp; omega, ?_⟩, ?_⟩
  · intro n hn
    obtain ⟨z, hz1, rfl⟩ := List.mem_map.1 hn
    have := bounds_u8 (hwz z (List.mem_of_mem_take hz1))
    omega
  · intro i n hn
    rw [List.getElem?_map] at hn
    obtain ⟨z, hz1, rfl⟩ := Option.map_eq_some_iff.1 hn
    have hi : i < zs.length := by
      have := (List.getElem?_eq_some_iff.1 hz1).1
      simp at this; omega
    have hzi : zs.getD i 0 = z := by
      rw [List.getElem?_take] at hz1
      split at hz1
      · simp [List.getD, hz1]
      · simp at hz1
    have hc := hcell i hi
    rw [hzi] at hc
    have hb := bounds_u8 (hwz z (List.mem_of_mem_take (List.mem_of_getElem? hz1)))
    obtain ⟨b, o, s⟩ := a
    have hs : s = none := by simpa [Addr.add] using World.cell?_spot (hcell 0 (by omega))
    subst hs
    refine ⟨b, o, rfl, ?_⟩
    rw [Int.toNat_of_nonneg hb.1, ← add_plain]
    exact hc
  · intro hw
    have := hw (((lits (H := H) .u8 (zs.take len)).length + (lits (H := H) .u8 (zs.drop len)).length) * Yba.prog.bytesOf 5) (by simp [DataW.weights, Yba.underlying23])
    rw [bytes5] at this
    simp only [lits, List.length_map, List.length_take, List.length_drop, reachBytes] at this
    simp; omega

theorem weights_all {P : Program} {e : TypeId} : ∀ (ds : List (DataW H)) (d : DataW H), d ∈ ds → ∀ n ∈ d.weights P e, n ∈ DataW.weightsAll P e ds
  | [], d, h, _, _ => by simp at h
  | d0 :: r, d, h, n, hn => by
    simp only [DataW.weightsAll, List.mem_append]
    rcases List.mem_cons.1 h with rfl | h
    · exact .inl hn
    · exact .inr (weights_all r d h n hn)

theorem fs_open {fuel : Nat} {cs : List Value} {x : DataW H × List MemPlace} (h : DataW.trod enc Yba.prog W 0 (fun _ => true) true fuel 22 cs = some x)
    (hw : ∀ n ∈ x.1.weights Yba.prog 22, n ≤ reachBytes) :
    ∃ v fs, cs = [v] ∧ Fs W v fs ∧ ∀ f ∈ fs, f.hs.length ≤ 1000000000000000 := by
  rcases Go.Deep.open_slice_pairs Yba.underlying22 Yba.underlying33 (by kernel_rfl) (by kernel_rfl) (by kernel_rfl) (by kernel_rfl) (by kernel_rfl) h with ⟨rfl, rfl⟩ | ⟨a, len, cap, m, n, V0, V1, D0, D1, P0, P1, rfl, _, hl, hm, hmm, rfl, hx⟩
  · exact ⟨_, [], rfl, ⟨none, 0, rfl, by simp⟩, by simp⟩
  simp only [if_true] at hmm
  have each : ∀ i, i < len → ∃ q : Nat × List Nat, q.1 < 256 ∧ V0 i = .int .u8 (q.1 : Int) ∧ U8s W (V1 i) q.2 ∧ q.2.length ≤ 1000000000000000 := by
    intro i hi
    obtain ⟨c0, c1, t0, t1⟩ := hx i (by omega)
    obtain ⟨z, hz, _, hzw⟩ := DataW.trod_int Yba.underlying5 t0
    simp only [List.cons.injEq, and_true] at hz
    have hb := bounds_u8 hzw
    obtain ⟨v, xs, hv, hu, hle⟩ := u8s_open t1
    simp only [List.cons.injEq, and_true] at hv
    subst hv
    refine ⟨(z.toNat, xs), by show z.toNat < 256; omega, by rw [hz]; show _ = Value.int .u8 ((z.toNat : Nat) : Int); rw [Int.toNat_of_nonneg hb.1], hu, hle ?_⟩
    intro k hk
    refine hw k ?_
    simp only [DataW.weights, Yba.underlying22]
    refine List.mem_cons_of_mem _ (List.mem_append_left _ (weights_all _ (.agg [D0 i, D1 i]) (List.mem_map.2 ⟨i, List.mem_range.2 hi, rfl⟩) k ?_))
    simp only [DataW.weights, Yba.underlying33]
    exact DataW.weights_mem_each (j := 1) rfl rfl k hk
  obtain ⟨q, hq⟩ := Go.Deep.choose_lt each
  refine ⟨_, (List.range len).map (fun i => ⟨(q i).1, V1 i, (q i).2⟩), rfl, ⟨some a, cap, by simp, ?_⟩, ?_⟩
  · intro i f hf
    rw [List.getElem?_map] at hf
    obtain ⟨j, hj, rfl⟩ := Option.map_eq_some_iff.1 hf
    have hij : j = i ∧ i < len := by
      rw [List.getElem?_eq_some_iff] at hj
      obtain ⟨h1, h2⟩ := hj
      simp at h1 h2
      exact ⟨h2.symm, h1⟩
    obtain ⟨rfl, hi⟩ := hij
    obtain ⟨q0, q1, q2, _⟩ := hq j hi
    obtain ⟨c0, c1, _, _⟩ := hx j (by omega)
    obtain ⟨b, o, s⟩ := a
    have hs : s = none := by simpa [Addr.add] using World.cell?_spot (hx 0 (by omega)).1
    subst hs
    refine ⟨q0, q2, b, o, rfl, ?_, ?_⟩
    · rw [q1] at c0; rw [← add_plain]; exact c0
    · rw [Nat.add_assoc, ← add_plain]; exact c1
  · intro f hf
    obtain ⟨i, hi, rfl⟩ := List.mem_map.1 hf
    exact (hq i (List.mem_range.1 hi)).2.2.2
end
end Go.Proofs.Ybulkpiy
