/-
  The pairs built are all different; a map's length; what the law's end looks at.
-/
import Derived.Test.YbulkpguLaw0
namespace Go.Proofs.Ybulkpgu
open Go.Fw Go.RowKit

theorem nodup_alone {us : List Nat} (h : us.Nodup) : (alone us).Nodup := by
  unfold alone
  rw [List.nodup_iff_pairwise_ne, List.pairwise_map]
  refine List.Pairwise.imp (fun {a b} hab he => hab ?_) (List.nodup_iff_pairwise_ne.1 h)
  simp only [Prod.mk.injEq, true_and] at he
  omega
theorem nodup_one {t : Nat} {us : List Nat} (h : us.Nodup) : (one t us).Nodup := by
  unfold one
  rw [List.nodup_iff_pairwise_ne, List.pairwise_map]
  refine List.Pairwise.imp (fun {a b} hab he => hab ?_) (List.nodup_iff_pairwise_ne.1 h)
  simp only [Prod.mk.injEq, true_and] at he
  omega
theorem nodup_each {us : List Nat} (hu : us.Nodup) : ∀ {ts : List Nat}, ts.Nodup → (each ts us).Nodup
  | [], _ => by simp [each]
  | t :: ts, h => by
    have h' := List.nodup_cons.1 h
    show (one t us ++ each ts us).Nodup
    refine List.nodup_append.2 ⟨nodup_one hu, nodup_each hu h'.2, fun a ha b hb e => ?_⟩
    subst e
    obtain ⟨v, hv, he⟩ := List.mem_map.1 ha
    subst he
    exact not_each h'.1 hb
theorem pfin_nodup {n : Nat} {yp ys xs : List Nat} {take : Bool} (h1 : yp.Nodup) (h2 : ys.Nodup) (h3 : ∀ u ∈ yp, u ∉ ys) (h4 : xs.Nodup) : ((pfin n yp ys xs take).l.map (·.1)).Nodup := by
  have hk : (prun false ⟨n, [], []⟩ (alone yp)).l.map (·.1) = alone yp := by rw [prun_keys]; simp
  unfold pfin
  split
  · rw [hk]; exact nodup_alone h1
  · split
    · rw [prun_keys, hk]
      refine List.nodup_append.2 ⟨nodup_alone h1, nodup_alone h2, fun a ha b hb e => ?_⟩
      subst e
      obtain ⟨v, hv, he⟩ := List.mem_map.1 ha
      subst he
      exact not_alone (h3 v hv) hb
    · rw [prun_keys, hk]
      refine List.nodup_append.2 ⟨nodup_alone h1, nodup_each h2 h4, fun a ha b hb e => ?_⟩
      subst e
      obtain ⟨s, hs, hm⟩ := List.mem_flatMap.1 hb
      obtain ⟨v, hv, he⟩ := List.mem_map.1 hm
      subst he
      exact not_alone' ha
theorem uniq_key {α β : Type} {l : List (α × β)} (h : (l.map (·.1)).Nodup) {a b : α × β} (ha : a ∈ l) (hb : b ∈ l) (he : a.1 = b.1) : a = b := by
  induction l with
  | nil => simp at ha
  | cons c l ih =>
    simp only [List.map_cons, List.nodup_cons] at h
    rcases List.mem_cons.1 ha with e1 | ha
    · rcases List.mem_cons.1 hb with e2 | hb
      · rw [e1, e2]
      · exact absurd (List.mem_map.2 ⟨b, hb, by rw [← he, e1]⟩) h.1
    · rcases List.mem_cons.1 hb with e2 | hb
      · exact absurd (List.mem_map.2 ⟨a, ha, by rw [he, e2]⟩) h.1
      · exact ih h.2 ha hb
theorem pfin_l_le (n : Nat) (yp ys xs : List Nat) (take : Bool) (h1 : yp.length ≤ 300) (h2 : ys.length ≤ 300) (h3 : xs.length ≤ 300) : (pfin n yp ys xs take).l.length ≤ 100000 := by
  have hel := prun_l false (alone yp) ⟨n, [], []⟩
  rw [alone_len] at hel
  simp only [List.length_nil, Nat.zero_add] at hel
  have hmul : xs.length * ys.length ≤ 300 * 300 := Nat.mul_le_mul h3 h2
  unfold pfin
  split
  · simp only; omega
  · split
    · rw [prun_l, alone_len]; omega
    · rw [prun_l, each_len]; omega
theorem filter_apart {α : Type} (p : α → Bool) (l : List α) : ∀ u ∈ l.filter (fun t => !p t), u ∉ l.filter p := fun u hu hv => by
  have h1 := (List.mem_filter.1 hu).2
  have h2 := (List.mem_filter.1 hv).2
  rw [h2] at h1
  cases h1

section
variable {e : List (Nat × Value)} {w : World} {dst : Option Nat} {ty : TypeId} {pos : String} {af : Array Edge} {g : Option (Nat × Bool)}
theorem Run.lenMap {X : Operand} {r : Nat} {l : List ((Int × Int) × Int)} (hx : ev e X = some (.map (some r))) (hr : w.heap[r]? = some (mapO l)) :
    Run Yba.prog e ⟨dst, .call ⟨.builtin .len, #[X], #[57]⟩, ty, pos, af, g⟩ w (.ok (.value (.int .i64 (l.length : Int))) w) := by
  intro ρ hρ
  have hg : (getObj r).run Yba.prog w = .ok (mapO l) w := by simp [getObj, Sem.run, hr]
  simp [execOp, resolve, invoke, builtin, hρ _ _ hx, Builtin.len_, run_underlying Yba.underlying57, hg, goInt]
end
end Go.Proofs.Ybulkpgu
