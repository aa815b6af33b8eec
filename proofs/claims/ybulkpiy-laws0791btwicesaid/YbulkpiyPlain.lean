/-
  The plain side: which rows an image's marks should have.
-/
import Derived.Test.YbulkpiyReindex
namespace Go.Proofs.Ybulkpiy
attribute [local simp] Go.Fw.stl_size Go.Fw.sto_size

/-- Whether follower i is of image k and has a slot on host h. -/
def onHost (fs : List Fo) (k h i : Nat) : Bool :=
  match fs[i]? with
  | some f => (f.img % 3 == k) && f.hs.any (fun x => x % 16 == h)
  | none => false

/-- The places of the first t followers that belong on row h of image k. -/
def rowUp (fs : List Fo) (k h t : Nat) : List Int := ((List.range t).filter (onHost fs k h)).map fun (i : Nat) => (i : Int)

theorem rowUp_succ (fs : List Fo) (k h t : Nat) : rowUp fs k h (t + 1) = rowUp fs k h t ++ if onHost fs k h t then [(t : Int)] else [] := by
  unfold rowUp
  rw [List.range_succ, List.filter_append, List.map_append]
  by_cases hh : onHost fs k h t <;> simp [hh]

theorem rowUp_prefix (fs : List Fo) (k h t n : Nat) (ht : t ≤ n) : ∃ r, rowUp fs k h n = rowUp fs k h t ++ r := by
  induction n with
  | zero => exact ⟨[], by rw [show t = 0 by omega]; simp⟩
  | succ n ih =>
    by_cases h1 : t = n + 1
    · exact ⟨[], by rw [h1]; simp⟩
    · obtain ⟨r, hr⟩ := ih (by omega)
      exact ⟨r ++ if onHost fs k h n then [(n : Int)] else [], by rw [rowUp_succ, hr, List.append_assoc]⟩

theorem rowUp_at (fs : List Fo) (k h i n : Nat) (hi : i < n) (ho : onHost fs k h i = true) : (rowUp fs k h n)[(rowUp fs k h i).length]? = some (i : Int) := by
  obtain ⟨r, hr⟩ := rowUp_prefix fs k h (i + 1) n (by omega)
  rw [hr, rowUp_succ, if_pos ho]
  simp

theorem rowUp_le (fs : List Fo) (k h t : Nat) : (rowUp fs k h t).length ≤ t := by
  unfold rowUp
  rw [List.length_map]
  exact Nat.le_trans (List.length_filter_le _ _) (by simp)

def wstep (w x : Nat) : Nat := if w < x % 16 + 1 then x % 16 + 1 else w
def wfo (k w : Nat) (f : Fo) : Nat := if f.img % 3 = k then f.hs.foldl wstep w else w
def want0 (prior : List Nat) (k : Nat) : Nat :=
  match prior[k]? with
  | some p => p % 12
  | none => 0
def want (prior : List Nat) (fs : List Fo) (k : Nat) : Nat := fs.foldl (wfo k) (want0 prior k)

theorem wstep_le {w x : Nat} (h : w ≤ 16) : wstep w x ≤ 16 := by unfold wstep; split <;> omega
theorem wsteps_le (hs : List Nat) {w : Nat} (h : w ≤ 16) : hs.foldl wstep w ≤ 16 := by
  induction hs generalizing w with
  | nil => exact h
  | cons x hs ih => exact ih (wstep_le h)
theorem wfo_le {k w : Nat} (f : Fo) (h : w ≤ 16) : wfo k w f ≤ 16 := by unfold wfo; split; exact wsteps_le _ h; exact h
theorem want0_le (prior : List Nat) (k : Nat) : want0 prior k ≤ 16 := by unfold want0; split <;> omega
theorem wants_le (fs : List Fo) (k : Nat) {w : Nat} (h : w ≤ 16) : fs.foldl (wfo k) w ≤ 16 := by
  induction fs generalizing w with
  | nil => exact h
  | cons f fs ih => exact ih (wfo_le f h)

/-- What the check asks of image k's rows. -/
def Exact (prior : List Nat) (fs : List Fo) (k : Nat) (rs : List (List Int)) : Prop :=
  rs.length = want prior fs k ∧ ∀ h, h < want prior fs k → rs[h]? = some (rowUp fs k h fs.length)

end Go.Proofs.Ybulkpiy
