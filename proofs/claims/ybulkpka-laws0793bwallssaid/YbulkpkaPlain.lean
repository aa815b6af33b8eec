/-
  The plain law, no Go in sight: a breadth-first search's hops are what rounds of relaxation settle on.
-/
namespace Go.Proofs.Ybulkpka

theorem getD_set (H : List Int) (j v : Nat) (x : Int) (hj : j < H.length) : (H.set j x).getD v 0 = if v = j then x else H.getD v 0 := by
  by_cases h : v = j
  · subst h
    simp [List.getD, hj]
  · simp [List.getD, List.getElem?_set_ne (Ne.symm h), h]

theorem nodup_len {Q : List Nat} : ∀ {L : List Nat}, Q.Nodup → (∀ x ∈ Q, x ∈ L) → Q.length ≤ L.length := by
  induction Q with
  | nil => intro L _ _; simp
  | cons a Q ih =>
    intro L hn hs
    have ha : a ∈ L := hs a (by simp)
    have hn' := List.nodup_cons.1 hn
    have := ih (L := L.erase a) hn'.2 (fun x hx => by
      have hxa : x ≠ a := fun e => hn'.1 (e ▸ hx)
      exact (List.mem_erase_of_ne hxa).2 (hs x (List.mem_cons_of_mem _ hx)))
    rw [List.length_erase_of_mem ha] at this
    have : 0 < L.length := List.length_pos_of_mem ha
    simp
    omega

theorem nodup_eq {Q L : List Nat} (hQ : Q.Nodup) (hL : L.Nodup) (h : ∀ x, x ∈ Q ↔ x ∈ L) : Q.length = L.length :=
  Nat.le_antisymm (nodup_len hQ fun x hx => (h x).1 hx) (nodup_len hL fun x hx => (h x).2 hx)

/-- What the search has done: k nodes of the queue are finished; of the next one's row the nodes of 'Pr' have been seen. -/
structure Bfs (n : Nat) (adj : Nat → Nat → Prop) (f : Nat) (H0 H : List Int) (Q : List Nat) (k : Nat) (Pr : Nat → Prop) : Prop where
  len0 : H0.length = n
  len : H.length = n
  head : Q[0]? = some f
  nd : Q.Nodup
  lt : ∀ v ∈ Q, v < n
  out : ∀ v, v ∉ Q → H.getD v 0 = H0.getD v 0
  inn : ∀ v ∈ Q, H0.getD v 0 < 0 ∧ 0 ≤ H.getD v 0
  zero : H.getD f 0 = 0
  mono : ∀ (a b : Nat) (u v : Nat), a ≤ b → Q[a]? = some u → Q[b]? = some v → H.getD u 0 ≤ H.getD v 0
  pred : ∀ v ∈ Q, v ≠ f → ∃ u ∈ Q, adj u v ∧ H.getD v 0 = H.getD u 0 + 1
  low : ∀ (a u : Nat), Q[a]? = some u → H.getD u 0 ≤ (a : Int)
  done : ∀ (a u : Nat), a < k → Q[a]? = some u → ∀ v, v < n → adj u v → H0.getD v 0 < 0 → v ∈ Q ∧ H.getD v 0 ≤ H.getD u 0 + 1
  cur : ∀ u, Q[k]? = some u → ∀ v, v < n → Pr v → H0.getD v 0 < 0 → v ∈ Q ∧ H.getD v 0 ≤ H.getD u 0 + 1
  top : ∀ u, Q[k]? = some u → ∀ v ∈ Q, H.getD v 0 ≤ H.getD u 0 + 1

section
variable {n f k : Nat} {adj : Nat → Nat → Prop} {H0 H : List Int} {Q : List Nat} {Pr : Nat → Prop}

theorem Bfs.start (hl : H0.length = n) (hf : f < n) (h0 : H0.getD f 0 < 0) : Bfs n adj f H0 (H0.set f 0) [f] 0 (fun _ => False) := by
  have hg := fun v => getD_set H0 f v 0 (by omega)
  refine ⟨hl, by simpa using hl, rfl, by simp, ?_, ?_, ?_, ?_, ?_, ?_, ?_, ?_, ?_, ?_⟩
  · intro v hv; simp at hv; omega
  · intro v hv
    rw [hg, if_neg (by simpa using hv)]
  · intro v hv
    simp at hv
    subst hv
    rw [hg, if_pos rfl]
    exact ⟨h0, by omega⟩
  · rw [hg, if_pos rfl]
  · intro a b u v _ ha hb
    have h1 := List.mem_of_getElem? ha
    have h2 := List.mem_of_getElem? hb
    simp at h1 h2
    subst h1; subst h2
    omega
  · intro v hv hne
    simp at hv
    exact absurd hv hne
  · intro a u ha
    have h1 := List.mem_of_getElem? ha
    simp at h1
    subst h1
    rw [hg, if_pos rfl]
    omega
  · intro a u ha; omega
  · intro u _ v _ h; exact h.elim
  · intro u hu v hv
    have h1 := List.mem_of_getElem? hu
    simp at h1 hv
    subst h1; subst hv
    omega

theorem Bfs.qlen (h : Bfs n adj f H0 H Q k Pr) : Q.length ≤ n := by
  have := nodup_len h.nd (L := List.range n) (fun x hx => List.mem_range.2 (h.lt x hx))
  simpa using this

/-- The node v is new: it joins the queue. -/
theorem Bfs.yes (h : Bfs n adj f H0 H Q k Pr) {u v : Nat} (hu : Q[k]? = some u) (hv : v < n) (ha : adj u v) (hneg : H.getD v 0 < 0) :
    Bfs n adj f H0 (H.set v (H.getD u 0 + 1)) (Q ++ [v]) k (fun x => Pr x ∨ x = v) := by
  have hlen := h.len
  have hg := fun x => getD_set H v x (H.getD u 0 + 1) (by omega)
  have huQ : u ∈ Q := List.mem_of_getElem? hu
  have hkQ : k < Q.length := (List.getElem?_eq_some_iff.1 hu).1
  have hvQ : v ∉ Q := fun hm => by have := (h.inn v hm).2; omega
  have huv : u ≠ v := fun e => hvQ (e ▸ huQ)
  have hold : ∀ x, x ∈ Q → (H.set v (H.getD u 0 + 1)).getD x 0 = H.getD x 0 := fun x hx => by
    rw [hg, if_neg (fun e : x = v => hvQ (e ▸ hx))]
  have hnew : (H.set v (H.getD u 0 + 1)).getD v 0 = H.getD u 0 + 1 := by rw [hg, if_pos rfl]
  have hu0 := (h.inn u huQ).2
  have hget : ∀ (a x : Nat), (Q ++ [v])[a]? = some x → (Q[a]? = some x) ∨ (a = Q.length ∧ x = v) := fun a x ha => by
    rcases Nat.lt_or_ge a Q.length with hl | hl
    · rw [List.getElem?_append_left hl] at ha
      exact .inl ha
    · rw [List.getElem?_append_right hl] at ha
      have h0 : a - Q.length = 0 := by
        rcases Nat.eq_zero_or_pos (a - Q.length) with h0 | h0
        · exact h0
        · rw [List.getElem?_eq_none (by simp; omega)] at ha; simp at ha
      rw [h0] at ha
      simp at ha
      exact .inr ⟨by omega, ha.symm⟩
  have hgk : ∀ x, (Q ++ [v])[k]? = some x → x = u := fun x hx => by
    rw [List.getElem?_append_left hkQ, hu] at hx
    exact (Option.some.inj hx).symm
  refine ⟨h.len0, by simpa using h.len, ?_, ?_, ?_, ?_, ?_, ?_, ?_, ?_, ?_, ?_, ?_, ?_⟩
  · rw [List.getElem?_append_left (by omega)]; exact h.head
  · rw [List.nodup_append]
    refine ⟨h.nd, by simp, fun a ha b hb e => ?_⟩
    simp at hb
    rw [e, hb] at ha
    exact hvQ ha
  · intro x hx
    rcases List.mem_append.1 hx with hx | hx
    · exact h.lt x hx
    · simp at hx; omega
  · intro x hx
    simp at hx
    rw [hg, if_neg hx.2]
    exact h.out x hx.1
  · intro x hx
    rcases List.mem_append.1 hx with hx | hx
    · rw [hold x hx]; exact h.inn x hx
    · simp at hx
      subst hx
      rw [hnew]
      have := h.out x hvQ
      exact ⟨by omega, by omega⟩
  · rw [hold f (List.mem_of_getElem? h.head)]; exact h.zero
  · intro a b x y hab hx hy
    rcases hget a x hx with hx | ⟨hx1, hx2⟩
    · rw [hold x (List.mem_of_getElem? hx)]
      rcases hget b y hy with hy | ⟨_, hy2⟩
      · rw [hold y (List.mem_of_getElem? hy)]
        exact h.mono a b x y hab hx hy
      · rw [hy2, hnew]
        exact h.top u hu x (List.mem_of_getElem? hx)
    · rcases hget b y hy with hy | ⟨_, hy2⟩
      · have := (List.getElem?_eq_some_iff.1 hy).1
        omega
      · rw [hx2, hy2]; exact Int.le_refl _
  · intro x hx hxf
    rcases List.mem_append.1 hx with hx | hx
    · obtain ⟨p, hp, hpa, hpe⟩ := h.pred x hx hxf
      exact ⟨p, List.mem_append_left _ hp, hpa, by rw [hold x hx, hold p hp]; exact hpe⟩
    · simp at hx
      subst hx
      exact ⟨u, List.mem_append_left _ huQ, ha, by rw [hnew, hold u huQ]⟩
  · intro a x hx
    rcases hget a x hx with hx | ⟨rfl, rfl⟩
    · rw [hold x (List.mem_of_getElem? hx)]; exact h.low a x hx
    · rw [hnew]
      have := h.low k u hu
      omega
  · intro a x hak hx y hy hxy hy0
    rcases hget a x hx with hx | ⟨rfl, rfl⟩
    · obtain ⟨h1, h2⟩ := h.done a x hak hx y hy hxy hy0
      exact ⟨List.mem_append_left _ h1, by rw [hold y h1, hold x (List.mem_of_getElem? hx)]; exact h2⟩
    · omega
  · intro x hx y hy hPr hy0
    have := hgk x hx
    subst this
    rcases hPr with hPr | rfl
    · obtain ⟨h1, h2⟩ := h.cur x hu y hy hPr hy0
      exact ⟨List.mem_append_left _ h1, by rw [hold y h1, hold x huQ]; exact h2⟩
    · exact ⟨by simp, by rw [hnew, hold x huQ]; omega⟩
  · intro x hx y hy
    have := hgk x hx
    subst this
    rw [hold x huQ]
    rcases List.mem_append.1 hy with hy | hy
    · rw [hold y hy]; exact h.top x hu y hy
    · simp at hy
      subst hy
      rw [hnew]
      omega

/-- The node v has hops already. -/
theorem Bfs.no (h : Bfs n adj f H0 H Q k Pr) {v : Nat} (hpos : 0 ≤ H.getD v 0) :
    Bfs n adj f H0 H Q k (fun x => Pr x ∨ x = v) := by
  refine ⟨h.len0, h.len, h.head, h.nd, h.lt, h.out, h.inn, h.zero, h.mono, h.pred, h.low, h.done, ?_, h.top⟩
  intro x hx y hy hPr hy0
  rcases hPr with hPr | rfl
  · exact h.cur x hx y hy hPr hy0
  · have hyQ : y ∈ Q := by
      rcases Classical.em (y ∈ Q) with h1 | h1
      · exact h1
      · have := h.out y h1; omega
    exact ⟨hyQ, h.top x hx y hyQ⟩

/-- The row is at its end: the next node of the queue. -/
theorem Bfs.next (h : Bfs n adj f H0 H Q k Pr) {u : Nat} (hu : Q[k]? = some u) (hall : ∀ v, v < n → adj u v → Pr v) : Bfs n adj f H0 H Q (k + 1) (fun _ => False) := by
  refine ⟨h.len0, h.len, h.head, h.nd, h.lt, h.out, h.inn, h.zero, h.mono, h.pred, h.low, ?_, ?_, ?_⟩
  · intro a x ha hx y hy hxy hy0
    rcases Nat.lt_or_ge a k with hl | hl
    · exact h.done a x hl hx y hy hxy hy0
    · have : a = k := by omega
      subst this
      rw [hu] at hx
      have := Option.some.inj hx
      subst this
      exact h.cur u hu y hy (hall y hy hxy) hy0
  · intro x _ y _ hf; exact hf.elim
  · intro x hx y hy
    have h1 := h.top u hu y hy
    have h2 := h.mono k (k + 1) u x (by omega) hu hx
    omega

theorem Bfs.weak {Pr' : Nat → Prop} (h : Bfs n adj f H0 H Q k Pr) (hw : ∀ v, v < n → Pr' v → Pr v) : Bfs n adj f H0 H Q k Pr' :=
  ⟨h.len0, h.len, h.head, h.nd, h.lt, h.out, h.inn, h.zero, h.mono, h.pred, h.low, h.done, fun u hu v hv hp => h.cur u hu v hv (hw v hv hp), h.top⟩
end

/-! ### Relaxation -/
def half (D : List Int) (a b : Nat) : List Int :=
  if 0 ≤ D.getD a 0 ∧ (D.getD b 0 < 0 ∨ D.getD a 0 + 1 < D.getD b 0) then D.set b (D.getD a 0 + 1) else D

def relax (wall : Nat → Bool) (D : List Int) (e : Nat × Nat) : List Int :=
  if e.1 = e.2 ∨ wall e.1 = true ∨ wall e.2 = true then D else half (half D e.1 e.2) e.2 e.1

def round (wall : Nat → Bool) (es : List (Nat × Nat)) (D : List Int) : List Int := es.foldl (relax wall) D

def rounds (wall : Nat → Bool) (es : List (Nat × Nat)) : Nat → List Int → List Int
  | 0, D => D
  | r + 1, D => round wall es (rounds wall es r D)

/-- What holds of D all the while, beside hops H that the search has found. -/
structure Bel (n : Nat) (wall : Nat → Bool) (f : Nat) (H D : List Int) : Prop where
  len : D.length = n
  wal : ∀ v, v < n → wall v = true → D.getD v 0 = H.getD v 0
  neg : ∀ v, v < n → wall v = false → D.getD v 0 < 0 → D.getD v 0 = -1
  snd : ∀ v, v < n → wall v = false → 0 ≤ D.getD v 0 → 0 ≤ H.getD v 0 ∧ H.getD v 0 ≤ D.getD v 0
  zero : D.getD f 0 = 0

section
variable {n f : Nat} {wall : Nat → Bool} {H D : List Int} {adj : Nat → Nat → Prop}

/-- 'D' lies at or under what it was: nought or more stays so, and does not rise. -/
def Le (n : Nat) (D' D : List Int) : Prop := ∀ v, v < n → 0 ≤ D.getD v 0 → 0 ≤ D'.getD v 0 ∧ D'.getD v 0 ≤ D.getD v 0

theorem Le.refl (n : Nat) (D : List Int) : Le n D D := fun _ _ h => ⟨h, Int.le_refl _⟩
theorem Le.trans {D1 D2 D3 : List Int} (h : Le n D2 D1) (k : Le n D3 D2) : Le n D3 D1 := fun v hv h0 => by
  obtain ⟨h1, h2⟩ := h v hv h0
  obtain ⟨h3, h4⟩ := k v hv h1
  exact ⟨h3, by omega⟩

theorem half_le (a b : Nat) : Le n (half D a b) D := by
  intro v hv h0
  unfold half
  split
  · rename_i hc
    rcases Nat.lt_or_ge b D.length with hb | hb
    · rw [getD_set D b v _ hb]
      split
      · rename_i e
        subst e
        exact ⟨by omega, by omega⟩
      · exact ⟨h0, Int.le_refl _⟩
    · rw [List.set_eq_of_length_le hb]
      exact ⟨h0, Int.le_refl _⟩
  · exact ⟨h0, Int.le_refl _⟩

theorem half_len (a b : Nat) : (half D a b).length = D.length := by
  unfold half
  split <;> simp

theorem relax_len (e : Nat × Nat) : (relax wall D e).length = D.length := by
  unfold relax
  split
  · rfl
  · rw [half_len, half_len]

theorem relax_le (e : Nat × Nat) : Le n (relax wall D e) D := by
  unfold relax
  split
  · exact Le.refl _ _
  · exact (half_le _ _).trans (half_le _ _)

/-- Behind a half-step the far end is at most one more. -/
theorem half_next (hl : D.length = n) (a b : Nat) (hb : b < n) (h0 : 0 ≤ D.getD a 0) : 0 ≤ (half D a b).getD b 0 ∧ (half D a b).getD b 0 ≤ D.getD a 0 + 1 := by
  unfold half
  split
  · rw [getD_set D b b _ (by omega), if_pos rfl]
    exact ⟨by omega, by omega⟩
  · rename_i hc
    constructor <;> omega

theorem half_bel (h : Bel n wall f H D) {a b : Nat} (ha : a < n) (hb : b < n) (wa : wall a = false) (wb : wall b = false)
    (hH : 0 ≤ H.getD a 0 → 0 ≤ H.getD b 0 ∧ H.getD b 0 ≤ H.getD a 0 + 1) : Bel n wall f H (half D a b) := by
  have hlen := h.len
  unfold half
  split
  · rename_i hc
    have hg := fun v => getD_set D b v (D.getD a 0 + 1) (by omega)
    obtain ⟨hc1, hc2⟩ := hc
    have hsa := h.snd a ha wa hc1
    have hHb := hH hsa.1
    refine ⟨by simpa using hlen, ?_, ?_, ?_, ?_⟩
    · intro v hv hw
      rw [hg, if_neg (fun e => by subst e; rw [wb] at hw; cases hw)]
      exact h.wal v hv hw
    · intro v hv hw hneg
      rw [hg] at hneg ⊢
      split
      · rename_i e
        rw [if_pos e] at hneg
        omega
      · rename_i e
        rw [if_neg e] at hneg
        exact h.neg v hv hw hneg
    · intro v hv hw hpos
      rw [hg] at hpos ⊢
      split
      · rename_i e
        subst e
        exact ⟨hHb.1, by omega⟩
      · rename_i e
        rw [if_neg e] at hpos
        exact h.snd v hv hw hpos
    · rw [hg]
      split
      · rename_i e
        subst e
        have := h.zero
        omega
      · exact h.zero
  · exact h

theorem relax_bel (h : Bel n wall f H D) {e : Nat × Nat} (he1 : e.1 < n) (he2 : e.2 < n)
    (hH : e.1 ≠ e.2 → wall e.1 = false → wall e.2 = false → (0 ≤ H.getD e.1 0 → 0 ≤ H.getD e.2 0 ∧ H.getD e.2 0 ≤ H.getD e.1 0 + 1) ∧ (0 ≤ H.getD e.2 0 → 0 ≤ H.getD e.1 0 ∧ H.getD e.1 0 ≤ H.getD e.2 0 + 1)) :
    Bel n wall f H (relax wall D e) := by
  unfold relax
  split
  · exact h
  · rename_i hc
    have h1 : e.1 ≠ e.2 := fun x => hc (.inl x)
    have h2 : wall e.1 = false := by
      cases hw : wall e.1 with
      | false => rfl
      | true => exact absurd (.inr (.inl hw)) hc
    have h3 : wall e.2 = false := by
      cases hw : wall e.2 with
      | false => rfl
      | true => exact absurd (.inr (.inr hw)) hc
    obtain ⟨h4, h5⟩ := hH h1 h2 h3
    exact half_bel (half_bel h he1 he2 h2 h3 h4) he2 he1 h3 h2 h5

theorem round_len (es : List (Nat × Nat)) : ∀ D : List Int, (round wall es D).length = D.length := by
  induction es with
  | nil => intro D; rfl
  | cons e es ih => intro D; show (round wall es (relax wall D e)).length = _; rw [ih, relax_len]

theorem round_le (es : List (Nat × Nat)) : ∀ D : List Int, Le n (round wall es D) D := by
  induction es with
  | nil => intro D; exact Le.refl _ _
  | cons e es ih => intro D; exact (relax_le e).trans (ih _)

theorem round_bel (es : List (Nat × Nat)) (hes : ∀ e ∈ es, e.1 < n ∧ e.2 < n)
    (hH : ∀ e ∈ es, e.1 ≠ e.2 → wall e.1 = false → wall e.2 = false → (0 ≤ H.getD e.1 0 → 0 ≤ H.getD e.2 0 ∧ H.getD e.2 0 ≤ H.getD e.1 0 + 1) ∧ (0 ≤ H.getD e.2 0 → 0 ≤ H.getD e.1 0 ∧ H.getD e.1 0 ≤ H.getD e.2 0 + 1)) :
    ∀ D : List Int, Bel n wall f H D → Bel n wall f H (round wall es D) := by
  induction es with
  | nil => intro D h; exact h
  | cons e es ih =>
    intro D h
    exact ih (fun x hx => hes x (List.mem_cons_of_mem _ hx)) (fun x hx => hH x (List.mem_cons_of_mem _ hx)) _ (relax_bel h (hes e (by simp)).1 (hes e (by simp)).2 (hH e (by simp)))

theorem round_step (es : List (Nat × Nat)) (e : Nat × Nat) (he : e ∈ es) (h1 : e.1 ≠ e.2) (w1 : wall e.1 = false) (w2 : wall e.2 = false) (he1 : e.1 < n) (he2 : e.2 < n) :
    ∀ D : List Int, D.length = n → (0 ≤ D.getD e.1 0 → 0 ≤ (round wall es D).getD e.2 0 ∧ (round wall es D).getD e.2 0 ≤ D.getD e.1 0 + 1) ∧
      (0 ≤ D.getD e.2 0 → 0 ≤ (round wall es D).getD e.1 0 ∧ (round wall es D).getD e.1 0 ≤ D.getD e.2 0 + 1) := by
  induction es with
  | nil => simp at he
  | cons d es ih =>
    intro D hl
    have hstep : round wall (d :: es) D = round wall es (relax wall D d) := rfl
    rw [hstep]
    rcases List.mem_cons.1 he with rfl | he
    · have hrel : relax wall D e = half (half D e.1 e.2) e.2 e.1 := by
        unfold relax
        rw [if_neg]
        rintro (h | h | h)
        · exact h1 h
        · rw [w1] at h; cases h
        · rw [w2] at h; cases h
      have hle := round_le (n := n) (wall := wall) es (relax wall D e)
      constructor
      · intro h0
        obtain ⟨a1, a2⟩ := half_next hl e.1 e.2 he2 h0
        obtain ⟨b1, b2⟩ := half_le (n := n) (D := half D e.1 e.2) e.2 e.1 e.2 he2 a1
        rw [← hrel] at b1 b2
        obtain ⟨c1, c2⟩ := hle e.2 he2 b1
        exact ⟨c1, by omega⟩
      · intro h0
        obtain ⟨a1, a2⟩ := half_le (n := n) (D := D) e.1 e.2 e.2 he2 h0
        obtain ⟨b1, b2⟩ := half_next (n := n) (D := half D e.1 e.2) (by rw [half_len]; exact hl) e.2 e.1 he1 a1
        rw [← hrel] at b1 b2
        obtain ⟨c1, c2⟩ := hle e.1 he1 b1
        exact ⟨c1, by omega⟩
    · obtain ⟨i1, i2⟩ := ih he (relax wall D d) (by rw [relax_len]; exact hl)
      have hd := relax_le (n := n) (wall := wall) (D := D) d
      constructor
      · intro h0
        obtain ⟨a1, a2⟩ := hd e.1 he1 h0
        obtain ⟨b1, b2⟩ := i1 a1
        exact ⟨b1, by omega⟩
      · intro h0
        obtain ⟨a1, a2⟩ := hd e.2 he2 h0
        obtain ⟨b1, b2⟩ := i2 a1
        exact ⟨b1, by omega⟩
end

def adjOf (es : List (Nat × Nat)) (u v : Nat) : Prop := ∃ e ∈ es, e.1 ≠ e.2 ∧ ((u = e.1 ∧ v = e.2) ∨ (u = e.2 ∧ v = e.1))

/-- The hops of the search are what n rounds of relaxation settle on. -/
theorem hops_eq {n f : Nat} {es : List (Nat × Nat)} {wall : Nat → Bool} {H0 H : List Int} {Q : List Nat} (hB : Bfs n (adjOf es) f H0 H Q Q.length (fun _ => False))
    (hes : ∀ e ∈ es, e.1 < n ∧ e.2 < n) (hw : ∀ v, v < n → (wall v = true → 0 ≤ H0.getD v 0) ∧ (wall v = false → H0.getD v 0 = -1)) (hf : f < n) (hwf : wall f = false) :
    ∀ v, v < n → H.getD v 0 = (rounds wall es n (H0.set f 0)).getD v 0 := by
  have hg := fun v => getD_set H0 f v 0 (by rw [hB.len0]; exact hf)
  have hQw : ∀ v ∈ Q, wall v = false := fun v hv => by
    cases hx : wall v with
    | false => rfl
    | true =>
      have h1 := (hw v (hB.lt v hv)).1 hx
      have h2 := (hB.inn v hv).1
      omega
  have hpos : ∀ v, v < n → wall v = false → 0 ≤ H.getD v 0 → v ∈ Q := fun v hv hwv h0 => by
    rcases Classical.em (v ∈ Q) with h | h
    · exact h
    · have h1 := hB.out v h
      have h2 := (hw v hv).2 hwv
      omega
  have hdone : ∀ u v, u < n → v < n → wall u = false → wall v = false → adjOf es u v → 0 ≤ H.getD u 0 → 0 ≤ H.getD v 0 ∧ H.getD v 0 ≤ H.getD u 0 + 1 := fun u v hu hv hwu hwv ha h0 => by
    have huQ := hpos u hu hwu h0
    obtain ⟨a, haQ⟩ := List.getElem?_of_mem huQ
    have hal := (List.getElem?_eq_some_iff.1 haQ).1
    obtain ⟨h1, h2⟩ := hB.done a u hal haQ v hv ha (by have := (hw v hv).2 hwv; omega)
    exact ⟨(hB.inn v h1).2, h2⟩
  have hH : ∀ e ∈ es, e.1 ≠ e.2 → wall e.1 = false → wall e.2 = false → (0 ≤ H.getD e.1 0 → 0 ≤ H.getD e.2 0 ∧ H.getD e.2 0 ≤ H.getD e.1 0 + 1) ∧ (0 ≤ H.getD e.2 0 → 0 ≤ H.getD e.1 0 ∧ H.getD e.1 0 ≤ H.getD e.2 0 + 1) := fun e he hne h1 h2 =>
    ⟨hdone e.1 e.2 (hes e he).1 (hes e he).2 h1 h2 ⟨e, he, hne, .inl ⟨rfl, rfl⟩⟩, hdone e.2 e.1 (hes e he).2 (hes e he).1 h2 h1 ⟨e, he, hne, .inr ⟨rfl, rfl⟩⟩⟩
  have hbel0 : Bel n wall f H (H0.set f 0) := by
    refine ⟨by simpa using hB.len0, ?_, ?_, ?_, ?_⟩
    · intro v hv hwv
      rw [hg, if_neg (fun e => by subst e; rw [hwf] at hwv; cases hwv)]
      exact (hB.out v (fun hm => by have := hQw v hm; rw [this] at hwv; cases hwv)).symm
    · intro v hv hwv hneg
      rw [hg] at hneg ⊢
      split
      · rename_i e; rw [if_pos e] at hneg; omega
      · exact (hw v hv).2 hwv
    · intro v hv hwv h0
      rw [hg] at h0 ⊢
      split
      · rename_i e
        rw [e, hB.zero]
        omega
      · rename_i e
        rw [if_neg e, (hw v hv).2 hwv] at h0
        omega
    · rw [hg, if_pos rfl]
  have hbel : ∀ r, Bel n wall f H (rounds wall es r (H0.set f 0)) := fun r => by
    induction r with
    | zero => exact hbel0
    | succ r ih => exact round_bel es hes hH _ ih
  have hcomp : ∀ (r : Nat) (v : Nat), v ∈ Q → H.getD v 0 ≤ (r : Int) → 0 ≤ (rounds wall es r (H0.set f 0)).getD v 0 ∧ (rounds wall es r (H0.set f 0)).getD v 0 ≤ H.getD v 0 := fun r => by
    induction r with
    | zero =>
      intro v hv hle
      have hvf : v = f := by
        rcases Classical.em (v = f) with h | h
        · exact h
        · obtain ⟨u, hu, _, he⟩ := hB.pred v hv h
          have := (hB.inn u hu).2
          omega
      subst hvf
      rw [(hbel 0).zero, hB.zero]
      omega
    | succ r ih =>
      intro v hv hle
      rcases Int.lt_or_le (H.getD v 0) (r + 1 : Int) with hlt | hge
      · obtain ⟨h1, h2⟩ := ih v hv (by omega)
        obtain ⟨h3, h4⟩ := round_le (n := n) (wall := wall) es (rounds wall es r (H0.set f 0)) v (hB.lt v hv) h1
        exact ⟨h3, by show (round wall es _).getD v 0 ≤ _; omega⟩
      · have hvf : v ≠ f := fun e => by
          subst e
          have := hB.zero
          omega
        obtain ⟨u, hu, ⟨e, he, hne, hor⟩, heq⟩ := hB.pred v hv hvf
        obtain ⟨h1, h2⟩ := ih u hu (by omega)
        have hwu := hQw u hu
        have hwv := hQw v hv
        rcases hor with ⟨rfl, rfl⟩ | ⟨rfl, rfl⟩
        · obtain ⟨h3, h4⟩ := (round_step es e he hne hwu hwv (hes e he).1 (hes e he).2 _ (hbel r).len).1 h1
          exact ⟨h3, by show (round wall es _).getD _ 0 ≤ _; omega⟩
        · obtain ⟨h3, h4⟩ := (round_step es e he hne hwv hwu (hes e he).1 (hes e he).2 _ (hbel r).len).2 h1
          exact ⟨h3, by show (round wall es _).getD _ 0 ≤ _; omega⟩
  intro v hv
  cases hwv : wall v with
  | true => exact ((hbel n).wal v hv hwv).symm
  | false =>
    rcases Classical.em (v ∈ Q) with hm | hm
    · obtain ⟨a, ha⟩ := List.getElem?_of_mem hm
      have hal := (List.getElem?_eq_some_iff.1 ha).1
      have h1 := hB.low a v ha
      have h2 := hB.qlen
      obtain ⟨h3, h4⟩ := hcomp n v hm (by omega)
      have := ((hbel n).snd v hv hwv h3).2
      omega
    · have h1 := hB.out v hm
      have h2 := (hw v hv).2 hwv
      rcases Int.lt_or_le ((rounds wall es n (H0.set f 0)).getD v 0) 0 with h3 | h3
      · have := (hbel n).neg v hv hwv h3
        omega
      · have := ((hbel n).snd v hv hwv h3).1
        omega

/-- How many nodes the search has reached. -/
theorem count_eq {n f : Nat} {adj : Nat → Nat → Prop} {wall : Nat → Bool} {H0 H : List Int} {Q : List Nat} {k : Nat} {Pr : Nat → Prop} (hB : Bfs n adj f H0 H Q k Pr)
    (hw : ∀ v, v < n → (wall v = true → 0 ≤ H0.getD v 0) ∧ (wall v = false → H0.getD v 0 = -1)) :
    (List.range n).countP (fun v => !wall v && decide (0 ≤ H.getD v 0)) = Q.length := by
  rw [List.countP_eq_length_filter]
  refine nodup_eq ((List.Pairwise.filter _ List.nodup_range)) hB.nd (fun x => ?_)
  rw [List.mem_filter, List.mem_range]
  constructor
  · rintro ⟨hx, hp⟩
    rw [Bool.and_eq_true, Bool.not_eq_true', decide_eq_true_eq] at hp
    rcases Classical.em (x ∈ Q) with h | h
    · exact h
    · have h1 := hB.out x h
      have h2 := (hw x hx).2 hp.1
      omega
  · intro hx
    have hlt := hB.lt x hx
    obtain ⟨h1, h2⟩ := hB.inn x hx
    refine ⟨hlt, ?_⟩
    have : wall x = false := by
      cases hc : wall x with
      | false => rfl
      | true => have := (hw x hlt).1 hc; omega
    rw [this, decide_eq_true h2]
    rfl

/-- No number of the relaxation is large. -/
def Bnd (c : Int) (D : List Int) : Prop := ∀ v, D.getD v 0 ≤ c

theorem half_bnd {c : Int} {D : List Int} (h : Bnd c D) (a b : Nat) : Bnd (c + 1) (half D a b) := by
  intro v
  have ha := h a
  have hv := h v
  unfold half
  split
  · rcases Nat.lt_or_ge b D.length with hb | hb
    · rw [getD_set D b v _ hb]
      split <;> omega
    · rw [List.set_eq_of_length_le hb]
      omega
  · omega

end Go.Proofs.Ybulkpka
