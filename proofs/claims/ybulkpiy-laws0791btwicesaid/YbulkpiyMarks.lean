/-
  One image's marks in memory; what indexing a follower does to them.
-/
import Derived.Test.YbulkpiySmall
import Derived.Test.YbulkpiyFwMem
namespace Go.Proofs.Ybulkpiy
open Go.Fw Go.RowKit
attribute [local simp] Go.Fw.stl_size

/-- One image's marks: its block, the value of 'followers', its rows (each row's value, and the places that it lists). -/
structure Mk where
  b : Nat
  ov : Value
  rows : List (Value × List Int)

abbrev ints (xs : List Int) : List Value := xs.map fun x => .int .i64 x

def Mk.vals (m : Mk) : List Value := m.rows.map (·.1)
def Mk.lists (m : Mk) : List (List Int) := m.rows.map (·.2)

/-- The blocks of its own. -/
def Mk.foot (m : Mk) (b : Nat) : Prop := b = m.b ∨ m.ov.ownBlock = some b ∨ ∃ r ∈ m.rows, r.1.ownBlock = some b

abbrev mkl (ov : Value) : List Value := [.slice none 0 0, .int .i64 (-9223372036854775808), ov]

structure MkOk (w : World) (N : Nat) (m : Mk) : Prop where
  base : N ≤ m.b
  blk : Blk w m.b 59 (mkl m.ov)
  outer : w.ownsRow N 60 1 m.ov m.rows.length m.vals
  row : ∀ r ∈ m.rows, w.ownsRow N 3 1 r.1 r.2.length (ints r.2)
  ob : m.ov.ownBlock ≠ some m.b
  rb : ∀ r ∈ m.rows, r.1.ownBlock ≠ some m.b
  ro : ∀ r ∈ m.rows, ∀ b, r.1.ownBlock = some b → m.ov.ownBlock ≠ some b
  rr : ∀ (i j : Nat) (r s : Value × List Int) (b : Nat), m.rows[i]? = some r → m.rows[j]? = some s → r.1.ownBlock = some b → s.1.ownBlock = some b → i = j

theorem MkOk.lt {w : World} {N : Nat} {m : Mk} (h : MkOk w N m) {b : Nat} (hb : m.foot b) : N ≤ b ∧ b < w.heap.size := by
  rcases hb with rfl | hb | ⟨r, hr, hb⟩
  · exact ⟨h.base, h.blk.lt⟩
  · exact h.outer.lt b hb
  · exact (h.row r hr).lt b hb

theorem MkOk.keep {w w' : World} {N : Nat} {m : Mk} (h : MkOk w N m) (hk : ∀ b, m.foot b → w'.heap[b]? = w.heap[b]?) : MkOk w' N m :=
  ⟨h.base, h.blk.of_eq (hk _ (.inl rfl)), ownsRow_keep h.outer (fun b hb => hk b (.inr (.inl hb))), fun r hr => ownsRow_keep (h.row r hr) (fun b hb => hk b (.inr (.inr ⟨r, hr, hb⟩))), h.ob, h.rb, h.ro, h.rr⟩

theorem MkOk.alloc {w : World} {N : Nat} {m : Mk} (h : MkOk w N m) (o : Obj) : MkOk (w.alloc o) N m := h.keep fun b hb => Below.heap_alloc w o b (h.lt hb).2
theorem MkOk.drew {w : World} {N : Nat} {m : Mk} (h : MkOk w N m) : MkOk w.drew N m := h.keep fun _ _ => rfl
theorem MkOk.stl {w : World} {N : Nat} {m : Mk} (h : MkOk w N m) {b : Nat} (hb : ¬ m.foot b) (l : List Value) : MkOk (Fw.stl w b l) N m := h.keep fun _ hk => stl_other (fun e => hb (e ▸ hk))

/-- The outer list has grown by d empty rows. -/
theorem MkOk.extend {w w1 : World} {N b cap d : Nat} {m : Mk} (h : MkOk w N m) (hg : w.grownBy w1 m.ov.ownBlock)
    (hown : w1.ownsRow N 60 1 (.slice (some ⟨b, 0, none⟩) (m.rows.length + d) cap) (m.rows.length + d) (m.vals ++ List.replicate d (.slice none 0 0)))
    (hb : m.ov.ownBlock = some b ∨ b = w.heap.size) : 
    MkOk (Fw.stl w1 m.b (mkl (.slice (some ⟨b, 0, none⟩) (m.rows.length + d) cap))) N ⟨m.b, .slice (some ⟨b, 0, none⟩) (m.rows.length + d) cap, m.rows ++ List.replicate d (.slice none 0 0, [])⟩ := by
  have hbm : b ≠ m.b := by
    rcases hb with hb | hb
    · exact fun e => h.ob (e ▸ hb)
    · have := h.blk.lt; omega
  have hblk : Blk w1 m.b 59 (mkl m.ov) := h.blk.grown hg (fun e => h.ob e.symm)
  have hmem : ∀ r ∈ m.rows ++ List.replicate d ((.slice none 0 0 : Value), ([] : List Int)), r ∈ m.rows ∨ r = (.slice none 0 0, []) := fun r hr => by
    rcases List.mem_append.1 hr with hr | hr
    · exact .inl hr
    · exact .inr (List.eq_of_mem_replicate hr)
  have hrow1 : ∀ r ∈ m.rows, w1.ownsRow N 3 1 r.1 r.2.length (ints r.2) := fun r hr => by
    refine ownsRow_keep (h.row r hr) (fun k hk => hg.block k ((h.row r hr).lt k hk).2 (fun e => h.ro r hr k hk e.symm))
  have hget : ∀ (i : Nat) (r : Value × List Int) (c : Nat), (m.rows ++ List.replicate d ((.slice none 0 0 : Value), ([] : List Int)))[i]? = some r → r.1.ownBlock = some c → m.rows[i]? = some r := fun i r c hi hc => by
    rcases Nat.lt_or_ge i m.rows.length with hl | hl
    · rwa [List.getElem?_append_left hl] at hi
    · rw [List.getElem?_append_right hl] at hi
      have := List.eq_of_mem_replicate (List.mem_of_getElem? hi)
      subst this
      simp [Value.ownBlock] at hc
  refine ⟨h.base, hblk.stl _, ?_, ?_, ?_, ?_, ?_, ?_⟩
  · have h1 : (m.rows ++ List.replicate d ((.slice none 0 0 : Value), ([] : List Int))).length = m.rows.length + d := by simp
    have h2 : Mk.vals ⟨m.b, .slice (some ⟨b, 0, none⟩) (m.rows.length + d) cap, m.rows ++ List.replicate d (.slice none 0 0, [])⟩ = m.vals ++ List.replicate d (.slice none 0 0) := by simp [Mk.vals]
    show (Fw.stl w1 m.b _).ownsRow N 60 1 _ (m.rows ++ List.replicate d ((.slice none 0 0 : Value), ([] : List Int))).length _
    rw [h1, h2]
    exact ownsRow_keep hown (fun k hk => by simp [Value.ownBlock] at hk; exact stl_other (by omega))
  · intro r hr
    rcases hmem r hr with hr | rfl
    · exact ownsRow_keep (hrow1 r hr) (fun k hk => stl_other (fun e => h.rb r hr (e ▸ hk)))
    · exact World.ownsRow_nil _ _ _ _
  · simp [Value.ownBlock]; exact hbm
  · intro r hr
    rcases hmem r hr with hr | rfl
    · exact h.rb r hr
    · simp [Value.ownBlock]
  · intro r hr k hk
    rcases hmem r hr with hr | rfl
    · simp [Value.ownBlock]
      rintro rfl
      rcases hb with hb | hb
      · exact h.ro r hr b hk hb
      · have := ((h.row r hr).lt b hk).2; omega
    · simp [Value.ownBlock] at hk
  · intro i j r s c hi hj hr hs
    exact h.rr i j r s c (hget i r c hi hr) (hget j s c hj hs) hr hs

/-- Row number j is turned: its new value lies in its old block, in a new one, or in none. -/
theorem MkOk.setRow {w w1 : World} {N j g n c : Nat} {m : Mk} {r : Value × List Int} {v' : Value} {xs' : List Int} (h : MkOk w N m) (hj : m.rows[j]? = some r) (hov : m.ov = .slice (some ⟨g, 0, none⟩) n c) (hg : w.grownBy w1 r.1.ownBlock)
    (hown : w1.ownsRow N 3 1 v' xs'.length (ints xs')) (hb : ∀ b, v'.ownBlock = some b → r.1.ownBlock = some b ∨ w.heap.size ≤ b) :
    ∃ l, Blk w1 g 60 l ∧ j < l.length ∧ MkOk (Fw.stl w1 g (l.set j v')) N ⟨m.b, m.ov, m.rows.set j (v', xs')⟩ := by
  have hjl : j < m.rows.length := by
    rcases Nat.lt_or_ge j m.rows.length with h' | h'
    · exact h'
    · simp [List.getElem?_eq_none h'] at hj
  have hmem : r ∈ m.rows := List.mem_of_getElem? hj
  have hog : m.ov.ownBlock = some g := by rw [hov]; rfl
  have hgm : g ≠ m.b := fun e => h.ob (e ▸ hog)
  have hblk : Blk w1 m.b 59 (mkl m.ov) := h.blk.grown hg (fun e => h.rb r hmem e.symm)
  have hout : w1.ownsRow N 60 1 m.ov m.rows.length m.vals := ownsRow_keep h.outer (fun k hk => hg.block k (h.outer.lt k hk).2 (fun e => h.ro r hmem k e.symm hk))
  have hn : n = m.rows.length := by
    obtain ⟨a, c', hs⟩ := ownsRow_slice h.outer
    rw [hov] at hs
    cases hs
    rfl
  subst hn
  rw [hov] at hout
  obtain ⟨l, hl, hjl2, hset⟩ := ownsRow_set hout hjl
  refine ⟨l, hl, hjl2, ?_⟩
  have hbg : ∀ b, v'.ownBlock = some b → b ≠ g := fun b hvb => by
    rcases hb b hvb with hb | hb
    · exact fun e => h.ro r hmem b hb (e ▸ hog)
    · have := (h.outer.lt g hog).2; omega
  have hbm : ∀ b, v'.ownBlock = some b → b ≠ m.b := fun b hvb => by
    rcases hb b hvb with hb | hb
    · exact fun e => h.rb r hmem (e ▸ hb)
    · have := h.blk.lt; omega
  -- another row is as it was
  have hother : ∀ i s, m.rows[i]? = some s → i ≠ j → (∀ k, s.1.ownBlock = some k → v'.ownBlock ≠ some k ∧ k ≠ g ∧ w1.heap[k]? = w.heap[k]?) := fun i s hi hij k hk => by
    have hlt := ((h.row s (List.mem_of_getElem? hi)).lt k hk).2
    refine ⟨fun hvk => ?_, fun e => h.ro s (List.mem_of_getElem? hi) k hk (e ▸ hog), hg.block k hlt (fun e => hij (h.rr i j s r k hi hj hk e.symm))⟩
    rcases hb k hvk with hb | hb
    · exact hij (h.rr i j s r k hi hj hk hb)
    · omega
  have hget : ∀ i s, (m.rows.set j (v', xs'))[i]? = some s → (i = j ∧ s = (v', xs')) ∨ (i ≠ j ∧ m.rows[i]? = some s) := fun i s hi => by
    by_cases hij : i = j
    · subst hij
      rw [List.getElem?_set_self hjl] at hi
      exact .inl ⟨rfl, (Option.some.inj hi).symm⟩
    · rw [List.getElem?_set_ne (Ne.symm hij)] at hi
      exact .inr ⟨hij, hi⟩
  refine ⟨h.base, ?_, ?_, ?_, h.ob, ?_, ?_, ?_⟩
  · exact hblk.stl_ne (Ne.symm hgm)
  · have h1 : (m.rows.set j (v', xs')).length = m.rows.length := by simp
    have h2 : Mk.vals ⟨m.b, m.ov, m.rows.set j (v', xs')⟩ = m.vals.set j v' := by simp [Mk.vals, List.map_set]
    show (Fw.stl w1 g _).ownsRow N 60 1 m.ov (m.rows.set j _).length _
    rw [h1, h2, hov]
    exact hset _
  · intro s hs
    obtain ⟨i, hi⟩ := List.getElem?_of_mem hs
    rcases hget i s hi with ⟨rfl, rfl⟩ | ⟨hij, hi⟩
    · exact ownsRow_keep hown (fun k hk => stl_other (hbg k hk))
    · refine ownsRow_keep (h.row s (List.mem_of_getElem? hi)) (fun k hk => ?_)
      obtain ⟨_, h2, h3⟩ := hother i s hi hij k hk
      rw [stl_other h2, h3]
  · intro s hs
    obtain ⟨i, hi⟩ := List.getElem?_of_mem hs
    rcases hget i s hi with ⟨rfl, rfl⟩ | ⟨hij, hi⟩
    · exact fun e => hbm _ e rfl
    · exact h.rb s (List.mem_of_getElem? hi)
  · intro s hs k hk
    obtain ⟨i, hi⟩ := List.getElem?_of_mem hs
    rcases hget i s hi with ⟨rfl, rfl⟩ | ⟨hij, hi⟩
    · show m.ov.ownBlock ≠ some k
      rw [hog]
      exact fun e => hbg k hk (Option.some.inj e).symm
    · exact h.ro s (List.mem_of_getElem? hi) k hk
  · intro i i' s s' k hi hi' hs hs'
    rcases hget i s hi with ⟨h1, h2⟩ | ⟨hij, h1⟩
    · rcases hget i' s' hi' with ⟨h3, h4⟩ | ⟨hij', h3⟩
      · rw [h1, h3]
      · rw [h2] at hs
        exact absurd hs (hother i' s' h3 hij' _ hs').1
    · rcases hget i' s' hi' with ⟨h3, h4⟩ | ⟨hij', h3⟩
      · rw [h4] at hs'
        exact absurd hs' (hother i s h1 hij _ hs).1
      · exact h.rr i i' s s' k h1 h3 hs hs'

/-- Row number j lists one place more. -/
theorem MkOk.push {w w1 : World} {N j b cap g n c : Nat} {m : Mk} {r : Value × List Int} {x : Int} (h : MkOk w N m) (hj : m.rows[j]? = some r) (hov : m.ov = .slice (some ⟨g, 0, none⟩) n c) (hg : w.grownBy w1 r.1.ownBlock)
    (hown : w1.ownsRow N 3 1 (.slice (some ⟨b, 0, none⟩) (r.2.length + 1) cap) (r.2.length + 1) (ints (r.2 ++ [x])))
    (hb : r.1.ownBlock = some b ∨ w.heap.size ≤ b) :
    ∃ l, Blk w1 g 60 l ∧ j < l.length ∧
    MkOk (Fw.stl w1 g (l.set j (.slice (some ⟨b, 0, none⟩) (r.2.length + 1) cap))) N ⟨m.b, m.ov, m.rows.set j (.slice (some ⟨b, 0, none⟩) (r.2.length + 1) cap, r.2 ++ [x])⟩ :=
  MkOk.setRow h hj hov hg (by rw [List.length_append, List.length_singleton]; exact hown) (fun b' hb' => by simp [Value.ownBlock] at hb'; exact hb' ▸ hb)

/-- Row number j is cut to nothing, in its own block. -/
theorem MkOk.cut {w : World} {N j g n c l k : Nat} {m : Mk} {a : Option Addr} {xs : List Int} (h : MkOk w N m) (hj : m.rows[j]? = some (.slice a l k, xs)) (hov : m.ov = .slice (some ⟨g, 0, none⟩) n c) :
    ∃ l, Blk w g 60 l ∧ j < l.length ∧ MkOk (Fw.stl w g (l.set j (.slice a 0 k))) N ⟨m.b, m.ov, m.rows.set j (.slice a 0 k, [])⟩ := by
  refine MkOk.setRow h hj hov ⟨rfl, rfl, rfl, Nat.le_refl _, fun _ _ _ => rfl⟩ ?_ (fun b hb => .inl (by cases a <;> exact hb))
  have hr : w.ownsRow N 3 1 (.slice a l k) xs.length (ints xs) := h.row _ (List.mem_of_getElem? hj)
  obtain ⟨a', c', hs⟩ := ownsRow_slice hr
  cases hs
  cases a with
  | none =>
    rcases hr.2 with ⟨h0, _⟩ | ⟨g', cap, cur, h0, _⟩
    · simp only [Value.slice.injEq, true_and] at h0
      rw [h0.2]
      exact World.ownsRow_nil _ _ _ _
    · cases h0
  | some ad =>
    rcases hr.2 with ⟨h0, _⟩ | ⟨g', cap, cur, h0, _⟩
    · cases h0
    · cases h0
      exact ownsRow_zero hr

theorem ovSlice {w : World} {base E size n : Nat} {v : Value} {xs : List Value} (h : w.ownsRow base E size v n xs) : ∃ a c, v = .slice a n c := ownsRow_slice h

end Go.Proofs.Ybulkpiy
