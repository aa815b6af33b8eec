/-
  A heap of named blocks: what the call owns, by names; two names never share a block.
-/
import Derived.Test.YbulkpguFwMap
namespace Go.Fw
open Go.RowKit
attribute [local simp] Go.Fw.stl_size Go.Fw.sto_size

abbrev Hn := Nat × Nat → Option (Nat × Obj)

def hup (h : Hn) (n : Nat × Nat) (x : Option (Nat × Obj)) : Hn := fun k => if k = n then x else h k
theorem hup_same {h : Hn} {n : Nat × Nat} {x : Option (Nat × Obj)} : hup h n x n = x := by simp [hup]
theorem hup_ne {h : Hn} {n k : Nat × Nat} {x : Option (Nat × Obj)} (hk : k ≠ n) : hup h n x k = h k := by simp [hup, hk]

structure Hp (w0 w : World) (h : Hn) : Prop where
  bel : Below w0.heap.size w0 w
  has : ∀ n b o, h n = some (b, o) → w0.heap.size ≤ b ∧ w.heap[b]? = some o
  inj : ∀ n n' b o o', h n = some (b, o) → h n' = some (b, o') → n = n'

abbrev cellsO (l : List Value) (E : TypeId) : Obj := .cells l.toArray E (0, 0)

section
variable {w0 w w' : World} {h : Hn} {n : Nat × Nat} {b : Nat} {o : Obj} {E : TypeId} {l l' : List Value}

theorem Hp.base (hp : Hp w0 w h) : w0.heap.size ≤ w.heap.size := hp.bel.size
theorem Hp.lt (hp : Hp w0 w h) (hn : h n = some (b, o)) : b < w.heap.size := (Array.getElem?_eq_some_iff.1 (hp.has n b o hn).2).1
theorem Hp.get (hp : Hp w0 w h) (hn : h n = some (b, o)) : w.heap[b]? = some o := (hp.has n b o hn).2
theorem Hp.blk (hp : Hp w0 w h) (hn : h n = some (b, cellsO l E)) : Blk w b E l := hp.get hn
theorem Hp.cell (hp : Hp w0 w h) (hn : h n = some (b, cellsO l E)) {i : Nat} {v : Value} (hi : l[i]? = some v) : w.cell? ⟨b, i, none⟩ = some v := (hp.blk hn).cell hi

theorem Hp.init (w : World) : Hp w w (fun _ => none) := ⟨Below.refl _ _, (fun _ _ _ h => by cases h), (fun _ _ _ _ _ h => by cases h)⟩

theorem Hp.keep (hp : Hp w0 w h) (hb : Below w0.heap.size w w') (hk : ∀ n b o, h n = some (b, o) → w'.heap[b]? = w.heap[b]?) : Hp w0 w' h :=
  ⟨hp.bel.trans hb, fun n b o hn => ⟨(hp.has n b o hn).1, by rw [hk n b o hn]; exact (hp.has n b o hn).2⟩, hp.inj⟩

theorem Hp.drew (hp : Hp w0 w h) : Hp w0 w.drew h := hp.keep ((Below.refl _ w).drew) fun _ _ _ _ => rfl
theorem Hp.alloc (hp : Hp w0 w h) (o : Obj) : Hp w0 (w.alloc o) h := hp.keep ((Below.refl _ w).alloc hp.base o) fun _ b _ hn => Below.heap_alloc w o b (hp.lt hn)

theorem Hp.forget (hp : Hp w0 w h) (n : Nat × Nat) : Hp w0 w (hup h n none) :=
  ⟨hp.bel, fun k b o hk => by
    by_cases hkn : k = n
    · subst hkn; rw [hup_same] at hk; cases hk
    · rw [hup_ne hkn] at hk; exact hp.has k b o hk,
   fun k k' b o o' hk hk' => by
    by_cases h1 : k = n
    · subst h1; rw [hup_same] at hk; cases hk
    · by_cases h2 : k' = n
      · subst h2; rw [hup_same] at hk'; cases hk'
      · rw [hup_ne h1] at hk; rw [hup_ne h2] at hk'; exact hp.inj k k' b o o' hk hk'⟩

/-- The name n now stands for block b, which is its own, a new one, or nobody's. -/
theorem Hp.put (hp : Hp w0 w h) (hbel : Below w0.heap.size w w') (hb : w0.heap.size ≤ b) (ho : w'.heap[b]? = some o) (hk : ∀ k c o', h k = some (c, o') → k ≠ n → c ≠ b ∧ w'.heap[c]? = w.heap[c]?) : Hp w0 w' (hup h n (some (b, o))) :=
  ⟨hp.bel.trans hbel, fun k c o' hk' => by
    by_cases hkn : k = n
    · subst hkn
      rw [hup_same] at hk'
      cases hk'
      exact ⟨hb, ho⟩
    · rw [hup_ne hkn] at hk'
      rw [(hk k c o' hk' hkn).2]
      exact hp.has k c o' hk',
   fun k k' c o' o'' h1 h2 => by
    by_cases e1 : k = n
    · subst e1
      rw [hup_same] at h1
      cases h1
      by_cases e2 : k' = k
      · exact e2.symm
      · rw [hup_ne e2] at h2
        exact absurd rfl (hk k' _ o'' h2 e2).1
    · rw [hup_ne e1] at h1
      by_cases e2 : k' = n
      · subst e2
        rw [hup_same] at h2
        cases h2
        exact absurd rfl (hk k _ o' h1 e1).1
      · rw [hup_ne e2] at h2
        exact hp.inj k k' c o' o'' h1 h2⟩

theorem Hp.new (hp : Hp w0 w h) (n : Nat × Nat) (o : Obj) : Hp w0 (w.alloc o) (hup h n (some (w.heap.size, o))) :=
  hp.put ((Below.refl _ w).alloc hp.base o) hp.base (heap_alloc_new w o) fun _ c _ hk _ => ⟨by have := hp.lt hk; omega, Below.heap_alloc w o c (hp.lt hk)⟩

theorem Hp.stl (hp : Hp w0 w h) (hn : h n = some (b, cellsO l E)) (l' : List Value) : Hp w0 (Fw.stl w b l') (hup h n (some (b, cellsO l' E))) :=
  hp.put ((Below.refl _ w).stl (hp.has n b _ hn).1 _) (hp.has n b _ hn).1 ((hp.blk hn).stl l') fun k c o' hk hkn => by
    have : c ≠ b := fun e => hkn (hp.inj k n c o' _ hk (e ▸ hn))
    exact ⟨this, stl_other this⟩

theorem below_sto {B r : Nat} (h : B ≤ r) (o : Obj) : Below B w (Fw.sto w r o) := ⟨rfl, rfl, rfl, by simp, fun _ hk => sto_other (by omega)⟩

theorem Hp.sto (hp : Hp w0 w h) (hn : h n = some (b, o)) (o' : Obj) : Hp w0 (Fw.sto w b o') (hup h n (some (b, o'))) :=
  hp.put (below_sto (hp.has n b _ hn).1 _) (hp.has n b _ hn).1 (sto_same (hp.lt hn)) fun k c o' hk hkn => by
    have : c ≠ b := fun e => hkn (hp.inj k n c o' _ hk (e ▸ hn))
    exact ⟨this, sto_other this⟩
end

/-! ### Slices of the call's own -/
def Sl (h : Hn) (n : Nat × Nat) (E size : Nat) (v : Value) (len : Nat) (xs : List Value) : Prop :=
  xs.length = len * size ∧ ((v = .slice none 0 0 ∧ len = 0) ∨ ∃ g cap cur, v = .slice (some ⟨g, 0, none⟩) len cap ∧ h n = some (g, cellsO cur E) ∧ len ≤ cap ∧ cap ≤ maxLen ∧ cur.length = cap * size ∧ cur.take (len * size) = xs)

section
variable {w0 w w' : World} {h h' : Hn} {n : Nat × Nat} {E size len : Nat} {v : Value} {xs : List Value}

theorem Sl.nil (h : Hn) (n : Nat × Nat) (E size : Nat) : Sl h n E size (.slice none 0 0) 0 [] := ⟨by simp, .inl ⟨rfl, rfl⟩⟩
theorem Sl.keep (hs : Sl h n E size v len xs) (he : h' n = h n) : Sl h' n E size v len xs := by unfold Sl at *; rw [he]; exact hs
theorem Sl.hup {k : Nat × Nat} {x : Option (Nat × Obj)} (hs : Sl h n E size v len xs) (hk : n ≠ k) : Sl (Fw.hup h k x) n E size v len xs := hs.keep (hup_ne hk)
theorem Sl.slice (hs : Sl h n E size v len xs) : ∃ a c, v = .slice a len c := by
  rcases hs.2 with ⟨rfl, rfl⟩ | ⟨g, cap, cur, rfl, _⟩
  · exact ⟨_, _, rfl⟩
  · exact ⟨_, _, rfl⟩
theorem Sl.cap (hs : Sl h n E size v len xs) : ∃ a c, v = .slice a len c ∧ len ≤ c := by
  rcases hs.2 with ⟨rfl, rfl⟩ | ⟨g, cap, cur, rfl, _, h1, _⟩
  · exact ⟨_, _, rfl, Nat.le_refl _⟩
  · exact ⟨_, _, rfl, h1⟩
theorem Sl.one (hs : Sl h n E size v len xs) : v.oneCell' = true := by
  obtain ⟨a, c, rfl⟩ := hs.slice
  rfl
theorem Sl.addr (hs : Sl h n E size v len xs) (hl : 0 < len) : ∃ g cap cur, v = .slice (some ⟨g, 0, none⟩) len cap ∧ h n = some (g, cellsO cur E) ∧ len ≤ cap ∧ cur.length = cap * size ∧ cur.take (len * size) = xs := by
  rcases hs.2 with ⟨rfl, rfl⟩ | ⟨g, cap, cur, rfl, h1, h2, _, h3, h4⟩
  · omega
  · exact ⟨g, cap, cur, rfl, h1, h2, h3, h4⟩
theorem Sl.owns (hs : Sl h n E size v len xs) (hp : Hp w0 w h) : w.ownsRow w0.heap.size E size v len xs := by
  refine ⟨hs.1, ?_⟩
  rcases hs.2 with hn | ⟨g, cap, cur, rfl, h1, h2, h3, h4, h5⟩
  · exact .inl hn
  · exact .inr ⟨g, cap, cur.toArray, rfl, (hp.has n g _ h1).1, hp.get h1, h2, h3, by simpa using h4, by simpa using h5⟩
theorem Sl.cell (hs : Sl h n E size v len xs) (hp : Hp w0 w h) {i : Nat} {u : Value} (hi : xs[i]? = some u) : ∃ g cap, v = .slice (some ⟨g, 0, none⟩) len cap ∧ w.cell? ⟨g, i, none⟩ = some u := by
  have hl : 0 < len := by
    rcases Nat.eq_zero_or_pos len with h0 | h0
    · have h1 := hs.1
      rw [h0, Nat.zero_mul] at h1
      rw [List.eq_nil_of_length_eq_zero h1] at hi
      simp at hi
    · exact h0
  obtain ⟨g, cap, cur, rfl, h1, h2, h3, h4⟩ := hs.addr hl
  refine ⟨g, cap, rfl, hp.cell h1 ?_⟩
  rw [← h4] at hi
  have hil : i < len * size := by
    rcases Nat.lt_or_ge i (len * size) with hlt | hge
    · exact hlt
    · rw [List.getElem?_eq_none (by simp; omega)] at hi; simp at hi
  rwa [List.getElem?_take_of_lt hil] at hi

/-- A cell of an owned row is stored. -/
theorem Sl.set {g c : Nat} (hs : Sl h n E size (.slice (some ⟨g, 0, none⟩) len c) len xs) (hp : Hp w0 w h) {j : Nat} (hj : j < len * size) :
    ∃ l, Blk w g E l ∧ j < l.length ∧ ∀ u, Hp w0 (stl w g (l.set j u)) (Fw.hup h n (some (g, cellsO (l.set j u) E))) ∧ Sl (Fw.hup h n (some (g, cellsO (l.set j u) E))) n E size (.slice (some ⟨g, 0, none⟩) len c) len (xs.set j u) := by
  rcases hs.2 with ⟨h0, _⟩ | ⟨g', cap, cur, hv, h1, h2, h3, h4, h5⟩
  · cases h0
  cases hv
  have hjl : j < cur.length := by
    have := Nat.mul_le_mul_right size h2
    omega
  refine ⟨cur, hp.blk h1, hjl, fun u => ⟨hp.stl h1 _, by rw [List.length_set]; exact hs.1, .inr ⟨_, _, cur.set j u, rfl, hup_same, h2, h3, by rw [List.length_set]; exact h4, by rw [List.take_set, h5]⟩⟩⟩

variable {P : Program}

theorem Hp.append {T bytes m c : Nat} {news : List Value} {ad : Addr} (hp : Hp w0 w h) (hE : Elt P T E size bytes) (hs : Sl h n E size v len xs)
    (hl : news.length = m * size) (hnews : ∀ j u, news[j]? = some u → w.cell? (ad.add j) = some u) (h1 : ∀ u ∈ news, u.oneCell' = true) (hm : 0 < m) (hnm : len + m ≤ 1000000000) (hby : bytes ≤ 100000) :
    ∃ b cap w' cur, (∀ ty, (Builtin.append_ #[T, T] ty #[v, .slice (some ad) m c]).run P w = .ok (.slice (some ⟨b, 0, none⟩) (len + m) cap) w') ∧
      Hp w0 w' (Fw.hup h n (some (b, cellsO cur E))) ∧ Sl (Fw.hup h n (some (b, cellsO cur E))) n E size (.slice (some ⟨b, 0, none⟩) (len + m) cap) (len + m) (xs ++ news) := by
  obtain ⟨b, cap, w', hrun, hown, hg, hb, hlt⟩ := append_ex (c := c) hE (hs.owns hp) hl hnews h1 hm hnm hby hp.base
  have hvb : ∀ c, v.ownBlock = some c → ∃ o, h n = some (c, o) := fun c hc => by
    rcases hs.2 with ⟨hv, _⟩ | ⟨g, cap', cur, hv, h2, _⟩
    · rw [hv] at hc
      cases hc
    · rw [hv] at hc
      simp [Value.ownBlock] at hc
      exact ⟨_, hc ▸ h2⟩
  rcases hown.2 with ⟨h0, _⟩ | ⟨g, cap', cur, hv, h2, h3, h4, h5, h6, h7⟩
  · cases h0
  cases hv
  refine ⟨_, _, w', cur.toList, hrun, hp.put ?_ h2 (by simpa using h3) ?_, hown.1, .inr ⟨_, _, cur.toList, rfl, hup_same, h4, h5, by simpa using h6, by simpa using h7⟩⟩
  · refine (Below.refl _ w).grown hg hp.base fun k hk => ?_
    obtain ⟨o, ho⟩ := hvb k hk
    exact (hp.has n k o ho).1
  · intro k c o' hk hkn
    have hc : v.ownBlock ≠ some c := fun e => by
      obtain ⟨o, ho⟩ := hvb c e
      exact hkn (hp.inj k n c o' o hk ho)
    refine ⟨fun e => ?_, hg.block c (hp.lt hk) (fun e => hc e.symm)⟩
    subst e
    rcases hb with hb | hb
    · exact hc hb
    · have := hp.lt hk; omega

/-- Nothing is appended. -/
theorem append0 {T c c' bytes : Nat} {a a' : Option Addr} (hE : Elt P T E size bytes) (hlc : len ≤ c) : ∀ ty, (Builtin.append_ #[T, T] ty #[.slice a len c, .slice a' 0 c']).run P w = .ok (.slice a len c) w := by
  intro ty
  obtain ⟨i, z, hT, hi, hz, hs, hb, hzs, hpz⟩ := hE.info
  cases a <;> cases a' <;> simp [Builtin.append_, run_underlying hT, sizeOf, typeInfo, hi, Builtin.lenOf, Builtin.firstCells, hlc, storeCells, loadCells, loadCellsFrom]
end
end Go.Fw
