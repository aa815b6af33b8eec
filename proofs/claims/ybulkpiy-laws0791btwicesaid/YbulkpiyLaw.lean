/-
  The plain law: listing the followers one by one gives exact rows.
-/
import Derived.Test.YbulkpiyBuild
namespace Go.Proofs.Ybulkpiy
attribute [local simp] Go.Fw.stl_size Go.Fw.sto_size

theorem getD_pad (rs : List (List Int)) (d h : Nat) : (rs ++ List.replicate d []).getD h [] = rs.getD h [] := by
  simp only [List.getD_eq_getElem?_getD]
  rcases Nat.lt_or_ge h rs.length with hl | hl
  · rw [List.getElem?_append_left hl]
  · rw [List.getElem?_append_right hl, List.getElem?_eq_none hl]
    rcases Nat.lt_or_ge (h - rs.length) d with h2 | h2
    · simp [h2]
    · rw [List.getElem?_eq_none (by simpa using h2)]

theorem getD_set (rs : List (List Int)) (h0 h : Nat) (x : List Int) (hl : h0 < rs.length) : (rs.set h0 x).getD h [] = if h = h0 then x else rs.getD h [] := by
  simp only [List.getD_eq_getElem?_getD]
  by_cases hh : h = h0
  · subst hh
    rw [List.getElem?_set_self hl]
    simp
  · rw [List.getElem?_set_ne (Ne.symm hh), if_neg hh]

theorem stepRow_length (i : Int) (rs : List (List Int)) (h : Nat) : (stepRow i rs h).length = if rs.length < h + 1 then h + 1 else rs.length := by
  unfold stepRow
  split
  · split <;> simp <;> omega
  · split <;> simp <;> omega

theorem rowUp_lt (fs : List Fo) (k h t : Nat) : ∀ x ∈ rowUp fs k h t, x < (t : Int) := by
  intro x hx
  unfold rowUp at hx
  simp only [List.mem_map, List.mem_filter, List.mem_range] at hx
  obtain ⟨i, ⟨hi, _⟩, rfl⟩ := hx
  omega

/-- The rows when, of follower i, the hosts P are listed. -/
def Mid (fs : List Fo) (k i : Nat) (P : List Nat) (rs : List (List Int)) : Prop := ∀ h, rs.getD h [] = rowUp fs k h i ++ if h ∈ P then [(i : Int)] else []

theorem stepRow_mid (fs : List Fo) (k i : Nat) (P : List Nat) (rs : List (List Int)) (h0 : Nat) (hm : Mid fs k i P rs) : Mid fs k i (P ++ [h0]) (stepRow (i : Int) rs h0) := by
  have hlast : ((rs.getD h0 []).getLast? = some (i : Int)) ↔ h0 ∈ P := by
    rw [hm h0]
    constructor
    · intro h
      by_cases hP : h0 ∈ P
      · exact hP
      · rw [if_neg hP, List.append_nil] at h
        have := rowUp_lt fs k h0 i _ (List.mem_of_getLast? h)
        omega
    · intro hP
      simp [hP]
  intro h
  unfold stepRow
  rw [getD_pad]
  split
  · rename_i hl
    have hP := hlast.1 hl
    rw [getD_pad, hm h]
    by_cases hh : h ∈ P
    · simp [hh]
    · have : h ≠ h0 := fun e => hh (e ▸ hP)
      simp [hh, this]
  · rename_i hl
    have hP : h0 ∉ P := fun hP => hl (hlast.2 hP)
    rw [getD_set _ _ _ _ (by simp; omega), getD_pad]
    by_cases hh : h = h0
    · subst hh
      rw [if_pos rfl, hm h]
      simp [hP]
    · rw [if_neg hh, hm h]
      simp [hh]

theorem foldl_mid (fs : List Fo) (k i : Nat) (hs : List Nat) : ∀ (P : List Nat) (rs : List (List Int)), Mid fs k i P rs → Mid fs k i (P ++ hs) (hs.foldl (stepRow (i : Int)) rs) := by
  induction hs with
  | nil => intro P rs h; simpa using h
  | cons x hs ih =>
    intro P rs h
    have := ih (P ++ [x]) _ (stepRow_mid fs k i P rs x h)
    simpa using this

theorem foldl_length (i : Int) (hs : List Nat) (rs : List (List Int)) : ((hs.map (· % 16)).foldl (stepRow i) rs).length = hs.foldl wstep rs.length := by
  induction hs generalizing rs with
  | nil => rfl
  | cons x hs ih =>
    rw [List.map_cons, List.foldl_cons, List.foldl_cons, ih, stepRow_length]
    rfl

theorem upto_spec (fs : List Fo) (k n0 t : Nat) (ht : t ≤ fs.length) : (upto fs k t (List.replicate n0 [])).length = (fs.take t).foldl (wfo k) n0 ∧ ∀ h, (upto fs k t (List.replicate n0 [])).getD h [] = rowUp fs k h t := by
  induction t with
  | zero =>
    refine ⟨by simp [upto], fun h => ?_⟩
    have := getD_pad [] n0 h
    simpa [upto, rowUp] using this
  | succ t ih =>
    obtain ⟨ih1, ih2⟩ := ih (by omega)
    obtain ⟨f, hf⟩ : ∃ f, fs[t]? = some f := ⟨fs[t], List.getElem?_eq_getElem (by omega)⟩
    rw [upto_succ, foldl_snoc (wfo k) n0 fs t f hf, ← ih1]
    generalize upto fs k t (List.replicate n0 []) = rs at *
    simp only [stepFo, hf, wfo]
    split
    · rename_i hk
      refine ⟨foldl_length _ _ _, fun h => ?_⟩
      have hm : Mid fs k t [] rs := fun h => by rw [ih2 h]; simp
      have := foldl_mid fs k t f.hosts [] rs hm h
      rw [this, rowUp_succ]
      congr 1
      have hon : onHost fs k h t = true ↔ h ∈ [] ++ f.hosts := by
        simp [onHost, hf, hk, Fo.hosts]
      by_cases hh : h ∈ [] ++ f.hosts
      · rw [if_pos hh, if_pos (hon.2 hh)]
      · rw [if_neg hh, if_neg (fun h' => hh (hon.1 h'))]
    · rename_i hk
      refine ⟨rfl, fun h => ?_⟩
      rw [ih2 h, rowUp_succ]
      have : onHost fs k h t = false := by simp [onHost, hf, hk]
      simp [this]

theorem upto_exact (fs : List Fo) (prior : List Nat) (k n0 : Nat) (hn : fs.foldl (wfo k) n0 = want prior fs k) : Exact prior fs k (upto fs k fs.length (List.replicate n0 [])) := by
  obtain ⟨h1, h2⟩ := upto_spec fs k n0 fs.length (Nat.le_refl _)
  rw [List.take_length, hn] at h1
  refine ⟨h1, fun h hh => ?_⟩
  have := h2 h
  rw [List.getD_eq_getElem?_getD, List.getElem?_eq_getElem (by omega)] at this
  rw [List.getElem?_eq_getElem (by omega)]
  simpa using this

/-- Listing once more changes nothing of the lengths. -/
theorem wstep_ge (w x : Nat) : w ≤ wstep w x := by unfold wstep; split <;> omega
theorem wsteps_ge (hs : List Nat) : ∀ w, w ≤ hs.foldl wstep w := by
  induction hs with
  | nil => intro w; exact Nat.le_refl _
  | cons x hs ih => intro w; exact Nat.le_trans (wstep_ge w x) (ih _)
theorem wfos_ge (fs : List Fo) (k : Nat) : ∀ w, w ≤ fs.foldl (wfo k) w := by
  induction fs with
  | nil => intro w; exact Nat.le_refl _
  | cons f fs ih =>
    intro w
    refine Nat.le_trans ?_ (ih _)
    unfold wfo
    split
    · exact wsteps_ge _ _
    · exact Nat.le_refl _
theorem wstep_absorb (w x c : Nat) (h : wstep w x ≤ c) : wstep c x = c := by
  unfold wstep at *
  split at h <;> split <;> omega
theorem wsteps_absorb (hs : List Nat) : ∀ (w c : Nat), hs.foldl wstep w ≤ c → hs.foldl wstep c = c := by
  induction hs with
  | nil => intro w c _; rfl
  | cons x hs ih =>
    intro w c h
    rw [List.foldl_cons] at h ⊢
    have h1 := Nat.le_trans (wsteps_ge hs (wstep w x)) h
    rw [wstep_absorb w x c h1]
    exact ih _ _ h
theorem wfos_absorb (fs : List Fo) (k : Nat) : ∀ (w c : Nat), fs.foldl (wfo k) w ≤ c → fs.foldl (wfo k) c = c := by
  induction fs with
  | nil => intro w c _; rfl
  | cons f fs ih =>
    intro w c h
    rw [List.foldl_cons] at h ⊢
    have h1 := Nat.le_trans (wfos_ge fs k (wfo k w f)) h
    have h2 : wfo k c f = c := by
      unfold wfo at *
      split
      · rename_i hk
        rw [if_pos hk] at h1
        exact wsteps_absorb _ w c h1
      · rfl
    rw [h2]
    exact ih _ _ h
end Go.Proofs.Ybulkpiy
