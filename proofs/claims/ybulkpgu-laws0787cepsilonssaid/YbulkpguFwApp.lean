/-
  'append(x, make([]T, m)...)' onto a slice of the call's own.
-/
import Derived.Test.YbulkpguFwDraw
namespace Go.Fw
open Go.RowKit
attribute [local simp] Go.Fw.stl_size

theorem zeroCells_rep (z : Value) (m : Nat) : Builtin.zeroCells #[z] m = (List.replicate m z).toArray := by
  apply Array.ext'
  apply List.ext_getElem?
  intro i
  by_cases hi : i < m
  · simp [Builtin.zeroCells, hi, Nat.mod_one]
  · rw [List.getElem?_eq_none (by simp [Builtin.zeroCells]; omega), List.getElem?_eq_none (by simp; omega)]

section
variable {P : Program} {w : World}

theorem append_zeros_ex {T U E bytes base n m : Nat} {k : IntKind} {v z : Value} {xs : List Value} (hE : Elt P T E 1 bytes) (hz : Zero P E z) (hz2 : z.oneCell' = true) (hU : P.underlying U = some (.int k))
    (hown : w.ownsRow base E 1 v n xs) (hm : 0 < m) (hnm : n + m ≤ 1000000000) (hby : bytes ≤ 100000) (hbase : base ≤ w.heap.size) :
    ∃ b cap w', (∀ ty, (Builtin.append_ #[T, U] ty #[v, .int .i64 (m : Int)]).run P w = .ok (.slice (some ⟨b, 0, none⟩) (n + m) cap) w') ∧
      w'.ownsRow base E 1 (.slice (some ⟨b, 0, none⟩) (n + m) cap) (n + m) (xs ++ List.replicate m z) ∧ w.grownBy w' v.ownBlock ∧ (v.ownBlock = some b ∨ b = w.heap.size) ∧ b < w'.heap.size := by
  obtain ⟨i, z', hT, hi, hz', hs, hb, hzs, hp⟩ := hE.info
  obtain ⟨i', hi', hz⟩ := hz.info
  rw [hi] at hi'
  cases hi'
  have hzz : z' = z := by rw [hz'] at hz; exact Option.some.inj hz
  subst hzz
  have hz1 := one_cells hz2
  subst hb
  have hbig : (n + m) * i.bytes ≤ 140737488355328 := by
    have : (n + m) * i.bytes ≤ 1000000000 * 100000 := Nat.mul_le_mul hnm hby
    omega
  have hbig2 : m * i.bytes ≤ 140737488355328 := Nat.le_trans (Nat.mul_le_mul_right _ (by omega)) hbig
  have hw : IntKind.i64.wrap (m : Int) = (m : Int) := wrap_id (by omega) (by omega)
  have hneg : ¬ ((m : Int) < 0) := by omega
  have hbig3 : ¬ ((281474976710656 : Int) < (m : Int) * (i.bytes : Int)) := by
    have h : ((m * i.bytes : Nat) : Int) ≤ 140737488355328 := by omega
    rw [Int.natCast_mul] at h
    omega
  have hm0 : ¬ m = 0 := by omega
  have hlen : (xs ++ List.replicate m z').length = (n + m) * 1 := by simp [hown.1]
  have hl63 : n + m ≤ maxLen := by unfold maxLen; omega
  have grown : ∀ (old : Nat), old < n + m → ∀ (row : Option Nat),
      (w.drew.alloc (.cells (xs.toArray ++ (List.replicate m z').toArray ++ (List.replicate (grownCap w (n + m) old E - (n + m)) z').toArray) E)).ownsRow base E 1
        (.slice (some ⟨w.heap.size, 0, none⟩) (n + m) (grownCap w (n + m) old E)) (n + m) (xs ++ List.replicate m z') ∧
      w.grownBy (w.drew.alloc (.cells (xs.toArray ++ (List.replicate m z').toArray ++ (List.replicate (grownCap w (n + m) old E - (n + m)) z').toArray) E)) row := by
    intro old ho row
    have hge := grownCap_ge w (n + m) old E
    have hcm : grownCap w (n + m) old E ≤ maxLen := grownCap_le_maxLen w (n + m) old E hl63
    refine ⟨⟨hlen, .inr ⟨w.heap.size, _, _, rfl, hbase, heap_alloc_new w.drew _, hge, hcm, ?_, ?_⟩⟩, ⟨rfl, rfl, rfl, by simp, fun k hk _ => Below.heap_alloc w.drew _ k hk⟩⟩
    · have := hown.1
      simp at this ⊢
      omega
    · simp only [Array.toList_append]
      rw [← hlen]
      exact List.take_left
  have fits : ∀ old, old < n + m → ¬ (281474976710656 < Builtin.nextslicecap (n + m) old * i.bytes) := fun old ho => by
    have := growslice_fits (need := n + m) (old := old) (bytes := i.bytes) (by omega) hbig
    omega
  have hsmall : ¬ ((9223372036854775807 : Int) < (n : Int) + (m : Int)) := by omega
  rcases hown.2 with ⟨rfl, rfl⟩ | ⟨g, cap, cur, rfl, hbg, hg, hnc, hcm, hcs, htake⟩
  · have hx : xs = [] := List.eq_nil_of_length_eq_zero (by simpa using hown.1)
    subst hx
    have hgr := grown 0 (by omega) (Value.ownBlock (.slice none 0 0))
    have hft := fits 0 (by omega)
    have hsmall0 : ¬ ((9223372036854775807 : Int) < (m : Int)) := by omega
    simp only [Nat.zero_add] at hft hgr
    refine ⟨w.heap.size, grownCap w (0 + m) 0 E, _, fun ty => ?_, by simpa using hgr.1, by simpa using hgr.2, .inr rfl, by simp⟩
    simp [Builtin.append_, run_underlying hT, run_underlying hU, sizeOf, typeInfo, hi, asInt, asIntOf, hw, hneg, hbig3, hm0, hft, hsmall0, IntKind.max, IntKind.signed, IntKind.bits, Builtin.firstCells, hs, zeroValue, hz', hz1, zeroCells_rep, newRow, grownCap, Question.forced]
  · by_cases hroom : n + m ≤ cap
    · have hst := run_storeCells_at P g n E (List.replicate m z') 0 cur w hg (by simp; omega) (fun u hu => by rw [List.eq_of_mem_replicate hu]; exact hz2)
      simp only [Nat.add_zero] at hst
      refine ⟨g, cap, w.setRow g (cur.toList.take n ++ List.replicate m z' ++ cur.toList.drop (n + (List.replicate m z').length)).toArray, fun ty => ?_, ⟨hlen, .inr ⟨g, cap, _, rfl, hbg, setRow_heap w g cur _ E _ hg, hroom, hcm, ?_, ?_⟩⟩, ⟨rfl, rfl, rfl, by simp, fun k _ hk => setRow_other w g k _ (fun e => hk (by simp [Value.ownBlock, e]))⟩, .inl rfl, by simpa using (Array.getElem?_eq_some_iff.1 hg).1⟩
      · simp [Builtin.append_, run_underlying hT, run_underlying hU, sizeOf, typeInfo, hi, asInt, asIntOf, hw, hneg, hbig3, hm0, hs, zeroValue, hz', hz1, zeroCells_rep, hroom, Addr.add_lit, hst]
      · simp; omega
      · rw [Nat.mul_one] at htake
        rw [htake, ← hlen]
        exact List.take_left
    · have hft := fits cap (by omega)
      have hgr := grown cap (by omega) (Value.ownBlock (.slice (some ⟨g, 0, none⟩) n cap))
      have hfo := run_firstCells_some (P := P) w.drew i.size n ⟨g, 0, none⟩ n cap xs (by rw [hs]; exact hown.1) (by simpa using hown.cells (g := g) rfl)
      rw [hs] at hfo
      refine ⟨w.heap.size, grownCap w (n + m) cap E, _, fun ty => ?_, hgr.1, hgr.2, .inr rfl, by simp⟩
      simp [Builtin.append_, run_underlying hT, run_underlying hU, sizeOf, typeInfo, hi, asInt, asIntOf, hw, hneg, hbig3, hm0, hft, hsmall, hroom, IntKind.max, IntKind.signed, IntKind.bits, hfo, hs, zeroValue, hz', hz1, zeroCells_rep, newRow, grownCap, Question.forced]
end
end Go.Fw
