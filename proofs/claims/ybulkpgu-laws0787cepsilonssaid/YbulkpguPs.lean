/-
  The plain model of pairEpsilons: pairs built one after another.
-/
namespace Go.Proofs.Ybulkpgu

structure Ps where
  next : Nat
  exp : List Int
  l : List ((Int × Int) × Int)

/-- One pair: it takes over its first side's place, or gets a place of its own. -/
def pst (take : Bool) (s : Ps) (p : Int × Int) : Ps :=
  if take then ⟨s.next, s.exp ++ [p.1], s.l ++ [(p, p.1)]⟩ else ⟨s.next + 1, s.exp ++ [(s.next : Int)], s.l ++ [(p, (s.next : Int))]⟩

def prun (take : Bool) (s : Ps) (L : List (Int × Int)) : Ps := L.foldl (pst take) s

theorem prun_snoc (take : Bool) (s : Ps) (L : List (Int × Int)) (p : Int × Int) : prun take s (L ++ [p]) = pst take (prun take s L) p := by simp [prun]
theorem prun_append (take : Bool) (s : Ps) (L L' : List (Int × Int)) : prun take s (L ++ L') = prun take (prun take s L) L' := by simp [prun]

theorem pst_keys (take : Bool) (s : Ps) (p : Int × Int) : (pst take s p).l.map (·.1) = s.l.map (·.1) ++ [p] := by
  unfold pst; split <;> simp
theorem pst_exp (take : Bool) (s : Ps) (p : Int × Int) : (pst take s p).exp.length = s.exp.length + 1 := by
  unfold pst; split <;> simp
theorem pst_l (take : Bool) (s : Ps) (p : Int × Int) : (pst take s p).l.length = s.l.length + 1 := by
  unfold pst; split <;> simp
theorem pst_next (take : Bool) (s : Ps) (p : Int × Int) : s.next ≤ (pst take s p).next ∧ (pst take s p).next ≤ s.next + 1 := by
  unfold pst; split <;> simp

theorem prun_keys (take : Bool) (L : List (Int × Int)) : ∀ s : Ps, (prun take s L).l.map (·.1) = s.l.map (·.1) ++ L := by
  induction L with
  | nil => intro s; simp [prun]
  | cons p L ih =>
    intro s
    show (prun take (pst take s p) L).l.map (·.1) = _
    rw [ih, pst_keys]
    simp
theorem prun_exp (take : Bool) (L : List (Int × Int)) : ∀ s : Ps, (prun take s L).exp.length = s.exp.length + L.length := by
  induction L with
  | nil => intro s; simp [prun]
  | cons p L ih =>
    intro s
    show (prun take (pst take s p) L).exp.length = _
    rw [ih, pst_exp]
    simp; omega
theorem prun_l (take : Bool) (L : List (Int × Int)) : ∀ s : Ps, (prun take s L).l.length = s.l.length + L.length := by
  induction L with
  | nil => intro s; simp [prun]
  | cons p L ih =>
    intro s
    show (prun take (pst take s p) L).l.length = _
    rw [ih, pst_l]
    simp; omega
theorem prun_next (take : Bool) (L : List (Int × Int)) : ∀ s : Ps, s.next ≤ (prun take s L).next ∧ (prun take s L).next ≤ s.next + L.length := by
  induction L with
  | nil => intro s; simp [prun]
  | cons p L ih =>
    intro s
    have h1 := ih (pst take s p)
    have h2 := pst_next take s p
    have h3 : prun take s (p :: L) = prun take (pst take s p) L := rfl
    rw [h3]
    simp only [List.length_cons]
    omega

/-- The pairs of one side alone. -/
def alone (us : List Nat) : List (Int × Int) := us.map fun u : Nat => ((-1 : Int), ((u : Nat) : Int))
/-- One star with each of the other side's. -/
def one (t : Nat) (us : List Nat) : List (Int × Int) := us.map fun u : Nat => (((t : Nat) : Int), ((u : Nat) : Int))
/-- Each star with each. -/
def each (ts us : List Nat) : List (Int × Int) := ts.flatMap fun t => one t us

theorem alone_len (us : List Nat) : (alone us).length = us.length := by simp [alone]
theorem one_len (t : Nat) (us : List Nat) : (one t us).length = us.length := by simp [one]
theorem each_len (ts us : List Nat) : (each ts us).length = ts.length * us.length := by
  induction ts with
  | nil => simp [each]
  | cons t ts ih => simp [each, one_len] at ih ⊢; rw [ih, Nat.add_mul]; omega

/-- What pairEpsilons builds: y's targets that are no stars, its stars, x's stars. -/
def pfin (n : Nat) (yp ys xs : List Nat) (take : Bool) : Ps :=
  if ys = [] then
    ⟨(prun false ⟨n, [], []⟩ (alone yp)).next, (prun false ⟨n, [], []⟩ (alone yp)).exp ++ xs.map (fun x : Nat => ((x : Nat) : Int)), (prun false ⟨n, [], []⟩ (alone yp)).l⟩
  else if xs = [] then prun false (prun false ⟨n, [], []⟩ (alone yp)) (alone ys)
  else prun take (prun false ⟨n, [], []⟩ (alone yp)) (each xs ys)

theorem not_alone {u : Nat} {us : List Nat} (h : u ∉ us) : ((-1 : Int), ((u : Nat) : Int)) ∉ alone us := by
  intro hm
  obtain ⟨v, hv, he⟩ := List.mem_map.1 hm
  simp only [Prod.mk.injEq, true_and] at he
  exact h (by have : v = u := by omega
              exact this ▸ hv)
theorem not_alone' {t u : Nat} {us : List Nat} : (((t : Nat) : Int), ((u : Nat) : Int)) ∉ alone us := by
  intro hm
  obtain ⟨v, hv, he⟩ := List.mem_map.1 hm
  simp only [Prod.mk.injEq] at he
  omega
theorem not_one {t u : Nat} {us : List Nat} (h : u ∉ us) : (((t : Nat) : Int), ((u : Nat) : Int)) ∉ one t us := by
  intro hm
  obtain ⟨v, hv, he⟩ := List.mem_map.1 hm
  simp only [Prod.mk.injEq, true_and] at he
  exact h (by have : v = u := by omega
              exact this ▸ hv)
theorem not_each {t u : Nat} {ts us : List Nat} (h : t ∉ ts) : (((t : Nat) : Int), ((u : Nat) : Int)) ∉ each ts us := by
  intro hm
  obtain ⟨s, hs, hm⟩ := List.mem_flatMap.1 hm
  obtain ⟨v, hv, he⟩ := List.mem_map.1 hm
  simp only [Prod.mk.injEq] at he
  exact h (by have : s = t := by omega
              exact this ▸ hs)
end Go.Proofs.Ybulkpgu
