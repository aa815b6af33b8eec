/-
  A stateList in memory: its variable, its list of blocks, its blocks, the loops of its stars.
-/
import Derived.Test.YbulkpguOps
namespace Go.Proofs.Ybulkpgu
open Go.Fw Go.RowKit
attribute [local simp] Go.Fw.stl_size Go.Fw.sto_size

/-- A state: whether it is a star; the values of edges and eps; indeg; stars. -/
structure Sv where
  star : Bool
  ed : Value
  ep : Value
  indeg : Int
  stars : Int

def Sv.cells (s : Sv) : List Value := [s.ed, s.ep, .slice none 0 0, .int .i32 s.indeg, .int .i32 s.stars]
def sv0 : Sv := ⟨false, .slice none 0 0, .slice none 0 0, 0, 0⟩
def flat (l : List Sv) : List Value := l.flatMap Sv.cells
def chunk (l : List Sv) (k : Nat) : List Sv := (l.drop (k * 16384)).take 16384

theorem Sv.cells_len (s : Sv) : s.cells.length = 5 := rfl
theorem flat_len (l : List Sv) : (flat l).length = l.length * 5 := by
  induction l with
  | nil => rfl
  | cons s l ih => simp [flat, Sv.cells_len] at ih ⊢; omega
theorem flat_append (l l' : List Sv) : flat (l ++ l') = flat l ++ flat l' := by simp [flat]
theorem flat_one (s : Sv) : flat [s] = s.cells := by simp [flat]

theorem flat_get (l : List Sv) : ∀ (i j : Nat) (s : Sv), l[i]? = some s → j < 5 → (flat l)[i * 5 + j]? = s.cells[j]? := by
  induction l with
  | nil => intro i j s h; simp at h
  | cons x l ih =>
    intro i j s h hj
    have e : flat (x :: l) = x.cells ++ flat l := rfl
    rw [e]
    cases i with
    | zero =>
      simp at h
      subst h
      rw [List.getElem?_append_left (by rw [Sv.cells_len]; omega)]
      simp
    | succ i =>
      rw [List.getElem?_append_right (by rw [Sv.cells_len]; omega), Sv.cells_len, show (i + 1) * 5 + j - 5 = i * 5 + j by omega]
      exact ih i j s (by simpa using h) hj

theorem flat_set (l : List Sv) : ∀ (i j : Nat) (s s' : Sv) (u : Value), l[i]? = some s → j < 5 → s'.cells = s.cells.set j u → flat (l.set i s') = (flat l).set (i * 5 + j) u := by
  induction l with
  | nil => intro i j s s' u h; simp at h
  | cons x l ih =>
    intro i j s s' u h hj hs
    have e : flat (x :: l) = x.cells ++ flat l := rfl
    cases i with
    | zero =>
      simp at h
      subst h
      show s'.cells ++ flat l = _
      rw [e, hs, List.set_append_left _ _ (by rw [Sv.cells_len]; omega)]
      simp
    | succ i =>
      show x.cells ++ flat (l.set i s') = _
      rw [e, ih i j s s' u (by simpa using h) hj hs, List.set_append_right _ _ (by rw [Sv.cells_len]; omega), Sv.cells_len, show (i + 1) * 5 + j - 5 = i * 5 + j by omega]

theorem chunk_get (l : List Sv) (k r : Nat) (hr : r < 16384) : (chunk l k)[r]? = l[k * 16384 + r]? := by
  rw [chunk, List.getElem?_take_of_lt hr, List.getElem?_drop]
theorem chunk_len (l : List Sv) (k : Nat) : (chunk l k).length = min 16384 (l.length - k * 16384) := by simp [chunk]

theorem chunk_ext {l l' : List Sv} (h : ∀ r, r < 16384 → l[r]? = l'[r]?) (hl : l.length ≤ 16384) (hl' : l'.length ≤ 16384) : l = l' := by
  apply List.ext_getElem?
  intro r
  rcases Nat.lt_or_ge r 16384 with hr | hr
  · exact h r hr
  · rw [List.getElem?_eq_none (by omega), List.getElem?_eq_none (by omega)]

theorem chunk_set (l : List Sv) (i k : Nat) (s : Sv) (hi : i < l.length) : chunk (l.set i s) k = if k = i / 16384 then (chunk l k).set (i % 16384) s else chunk l k := by
  apply chunk_ext
  · intro r hr
    rw [chunk_get _ _ _ hr]
    by_cases hk : k = i / 16384
    · rw [if_pos hk]
      by_cases hri : r = i % 16384
      · have e : k * 16384 + r = i := by omega
        have hlen : r < (chunk l k).length := by rw [chunk_len]; omega
        rw [e, ← hri, List.getElem?_set_self hi, List.getElem?_set_self hlen]
      · rw [List.getElem?_set_ne (by omega), List.getElem?_set_ne (by omega), chunk_get _ _ _ hr]
    · rw [if_neg hk, List.getElem?_set_ne (by omega), chunk_get _ _ _ hr]
  · rw [chunk_len]; omega
  · split
    · rw [List.length_set, chunk_len]; omega
    · rw [chunk_len]; omega

theorem chunk_snoc (l : List Sv) (k : Nat) (s : Sv) : chunk (l ++ [s]) k = if k = l.length / 16384 then chunk l k ++ [s] else chunk l k := by
  apply chunk_ext
  · intro r hr
    rw [chunk_get _ _ _ hr]
    by_cases hk : k = l.length / 16384
    · rw [if_pos hk]
      have hcl : (chunk l k).length = l.length % 16384 := by rw [chunk_len]; omega
      rcases Nat.lt_or_ge r (l.length % 16384) with h | h
      · rw [List.getElem?_append_left (by omega), List.getElem?_append_left (by omega), chunk_get _ _ _ hr]
      · rw [List.getElem?_append_right (by omega), List.getElem?_append_right (by omega)]
        congr 1
        omega
    · rw [if_neg hk, chunk_get _ _ _ hr]
      rcases Nat.lt_or_ge (k * 16384 + r) l.length with h | h
      · rw [List.getElem?_append_left h]
      · rw [List.getElem?_append_right h, List.getElem?_eq_none (show [s].length ≤ _ by simp; omega), List.getElem?_eq_none (by omega)]
  · rw [chunk_len]; omega
  · split
    · rw [List.length_append, chunk_len, List.length_singleton]; omega
    · rw [chunk_len]; omega

/-- The list in memory; tags t (the variable, the list of blocks), t + 1 (blocks), t + 2 (the stars' loops). -/
structure Ls (h : Hn) (t vb : Nat) (sts : List Sv) (ov : Value) (rows : List Value) : Prop where
  var : h (t, 0) = some (vb, cellsO [ov, .int .i32 (sts.length : Int), .int .i32 0] 44)
  out : Sl h (t, 1) 74 1 ov rows.length rows
  row : ∀ k rv, rows[k]? = some rv → Sl h (t + 1, k) 48 5 rv (chunk sts k).length (flat (chunk sts k))
  edg : ∀ i s, sts[i]? = some s → (s.star = false ∧ s.ed = .slice none 0 0) ∨ (s.star = true ∧ ∃ eb, s.ed = .slice (some ⟨eb, 0, none⟩) 1 1 ∧ h (t + 2, i) = some (eb, cellsO [.int .u8 0, .int .u8 255, .int .i32 (i : Int)] 77))
  big : sts.length ≤ 1000000

/-- .. with as many blocks as it has. -/
def LsE (h : Hn) (t vb : Nat) (sts : List Sv) : Prop := ∃ ov rows, Ls h t vb sts ov rows ∧ rows.length = (sts.length + 16383) / 16384

theorem Ls.keep {h h' : Hn} {t vb : Nat} {sts : List Sv} {ov : Value} {rows : List Value} (hl : Ls h t vb sts ov rows) (hk : ∀ n : Nat × Nat, n.1 = t ∨ n.1 = t + 1 ∨ n.1 = t + 2 → h' n = h n) : Ls h' t vb sts ov rows :=
  ⟨by rw [hk _ (.inl rfl)]; exact hl.var, hl.out.keep (hk _ (.inl rfl)), fun k rv hr => (hl.row k rv hr).keep (hk _ (.inr (.inl rfl))), fun i s hs => by
    rw [hk (t + 2, i) (.inr (.inr rfl))]
    exact hl.edg i s hs, hl.big⟩
theorem LsE.keep {h h' : Hn} {t vb : Nat} {sts : List Sv} (hl : LsE h t vb sts) (hk : ∀ n : Nat × Nat, n.1 = t ∨ n.1 = t + 1 ∨ n.1 = t + 2 → h' n = h n) : LsE h' t vb sts := by
  obtain ⟨ov, rows, hl, hr⟩ := hl
  exact ⟨ov, rows, hl.keep hk, hr⟩

/-- State i lies in block rb, whose cells are cur. -/
structure At (h : Hn) (t i : Nat) (s : Sv) (rb : Nat) (cur : List Value) : Prop where
  blk : h (t + 1, i / 16384) = some (rb, cellsO cur 48)
  get : ∀ j u, s.cells[j]? = some u → cur[i % 16384 * 5 + j]? = some u

theorem At.keep {h h' : Hn} {t i rb : Nat} {s : Sv} {cur : List Value} (ha : At h t i s rb cur) (hk : h' (t + 1, i / 16384) = h (t + 1, i / 16384)) : At h' t i s rb cur := ⟨by rw [hk]; exact ha.blk, ha.get⟩

theorem Ls.at {h : Hn} {t vb i : Nat} {sts : List Sv} {ov : Value} {rows : List Value} {s : Sv} (hl : Ls h t vb sts ov rows) (hr : i / 16384 < rows.length) (hi : sts[i]? = some s) :
    ∃ rb cap cur, rows[i / 16384]? = some (.slice (some ⟨rb, 0, none⟩) (chunk sts (i / 16384)).length cap) ∧ At h t i s rb cur := by
  have hil : i < sts.length := (List.getElem?_eq_some_iff.1 hi).1
  have hcl : i % 16384 < (chunk sts (i / 16384)).length := by rw [chunk_len]; omega
  have hrow := hl.row _ _ (List.getElem?_eq_getElem hr)
  obtain ⟨g, cap, cur, hv, h1, h2, h3, h4⟩ := hrow.addr (by omega)
  refine ⟨g, cap, cur, by rw [List.getElem?_eq_getElem hr, hv], h1, fun j u hu => ?_⟩
  have hj : j < 5 := by
    have := (List.getElem?_eq_some_iff.1 hu).1
    rwa [Sv.cells_len] at this
  have hg := flat_get (chunk sts (i / 16384)) (i % 16384) j s (by rw [chunk_get _ _ _ (by omega), show i / 16384 * 16384 + i % 16384 = i by omega]; exact hi) hj
  rw [hu, ← h4] at hg
  rwa [List.getElem?_take_of_lt (by omega)] at hg

/-- A cell of state i is stored. -/
theorem Ls.set {w0 w : World} {h : Hn} {t vb i j rb : Nat} {sts : List Sv} {ov : Value} {rows cur : List Value} {s s' : Sv} {u : Value} (hl : Ls h t vb sts ov rows) (hp : Hp w0 w h) (hr : i / 16384 < rows.length) (hi : sts[i]? = some s)
    (hat : At h t i s rb cur) (hj : j < 5) (hs : s'.cells = s.cells.set j u)
    (he : (s'.star = false ∧ s'.ed = .slice none 0 0) ∨ (s'.star = true ∧ ∃ eb, s'.ed = .slice (some ⟨eb, 0, none⟩) 1 1 ∧ h (t + 2, i) = some (eb, cellsO [.int .u8 0, .int .u8 255, .int .i32 (i : Int)] 77))) :
    i % 16384 * 5 + j < cur.length ∧ Hp w0 (Fw.stl w rb (cur.set (i % 16384 * 5 + j) u)) (hup h (t + 1, i / 16384) (some (rb, cellsO (cur.set (i % 16384 * 5 + j) u) 48))) ∧ Ls (hup h (t + 1, i / 16384) (some (rb, cellsO (cur.set (i % 16384 * 5 + j) u) 48))) t vb (sts.set i s') ov rows ∧
      At (hup h (t + 1, i / 16384) (some (rb, cellsO (cur.set (i % 16384 * 5 + j) u) 48))) t i s' rb (cur.set (i % 16384 * 5 + j) u) := by
  have hil : i < sts.length := (List.getElem?_eq_some_iff.1 hi).1
  have hcl : i % 16384 < (chunk sts (i / 16384)).length := by rw [chunk_len]; omega
  have hrow := hl.row _ _ (List.getElem?_eq_getElem hr)
  obtain ⟨g, cap, cur', hv, h1, h2, h3, h4⟩ := hrow.addr (by omega)
  have hsame : g = rb ∧ cur' = cur := by
    have := h1.symm.trans hat.blk
    simp only [Option.some.injEq, Prod.mk.injEq, Obj.cells.injEq, and_true] at this
    exact ⟨this.1, by simpa using this.2⟩
  obtain ⟨rfl, rfl⟩ := hsame
  have hjl : i % 16384 * 5 + j < (chunk sts (i / 16384)).length * 5 := by omega
  have hjc : i % 16384 * 5 + j < cur'.length := by
    have := Nat.mul_le_mul_right 5 h2
    omega
  have hs5 : s.cells.length = 5 := rfl
  refine ⟨hjc, hp.stl h1 _, ⟨?_, ?_, ?_, ?_, by rw [List.length_set]; exact hl.big⟩, hup_same, ?_⟩
  · rw [hup_ne (by simp), List.length_set]; exact hl.var
  · exact hl.out.hup (by simp)
  · intro k rv hk
    rw [chunk_set _ _ _ _ hil]
    by_cases hki : k = i / 16384
    · subst hki
      rw [if_pos rfl]
      have hrv : rv = rows[i / 16384] := by rw [List.getElem?_eq_getElem hr] at hk; exact (Option.some.inj hk).symm
      rw [hrv]
      have hcs : (chunk sts (i / 16384))[i % 16384]? = some s := by rw [chunk_get _ _ _ (by omega), show i / 16384 * 16384 + i % 16384 = i by omega]; exact hi
      rw [flat_set _ _ j s s' u hcs hj hs, List.length_set]
      rcases hrow.2 with ⟨h0, _⟩ | ⟨g2, cap2, cur2, hv2, e1, e2, e3, e4, e5⟩
      · rw [hv] at h0
        cases h0
      · rw [hv] at hv2
        cases hv2
        have hsame2 : cur2 = cur' := by
          have := e1.symm.trans h1
          simp only [Option.some.injEq, Prod.mk.injEq, Obj.cells.injEq, and_true] at this
          simpa using this.2
        subst hsame2
        exact ⟨by rw [List.length_set]; exact hrow.1, .inr ⟨_, _, cur2.set (i % 16384 * 5 + j) u, hv, hup_same, e2, e3, by rw [List.length_set]; exact e4, by rw [List.take_set, e5]⟩⟩
    · rw [if_neg hki]
      exact (hl.row k rv hk).hup (by simp; exact hki)
  · intro q s2 hq
    rw [hup_ne (by simp)]
    by_cases hqi : q = i
    · subst hqi
      rw [List.getElem?_set_self hil] at hq
      cases hq
      exact he
    · rw [List.getElem?_set_ne (Ne.symm hqi)] at hq
      exact hl.edg q s2 hq
  · intro q u' hq
    rw [hs] at hq
    by_cases hqj : q = j
    · subst hqj
      rw [List.getElem?_set_self (by omega)] at hq
      rw [List.getElem?_set_self hjc, ← hq]
    · rw [List.getElem?_set_ne (Ne.symm hqj)] at hq
      rw [List.getElem?_set_ne (by omega)]
      exact hat.get q u' hq
end Go.Proofs.Ybulkpgu
