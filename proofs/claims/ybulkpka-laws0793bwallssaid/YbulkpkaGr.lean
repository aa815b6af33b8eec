/-
  A graph in memory: its block, its list of rows, its rows.
-/
import Derived.Test.YbulkpkaTys
import Derived.Test.YbulkpkaFwMem
namespace Go.Proofs.Ybulkpka
open Go.Fw Go.RowKit
attribute [local simp] Go.Fw.stl_size

/-- A graph: its block, the count of its edges, the value of 'adj', its rows (each row's value, and the nodes that it lists). -/
structure Gr where
  b : Nat
  e : Int
  ov : Value
  rows : List (Value × List Int)

abbrev ints (xs : List Int) : List Value := xs.map fun x => .int .i64 x

def Gr.vals (m : Gr) : List Value := m.rows.map (·.1)
def Gr.lists (m : Gr) : List (List Int) := m.rows.map (·.2)

/-- The blocks of its own. -/
def Gr.foot (m : Gr) (b : Nat) : Prop := b = m.b ∨ m.ov.ownBlock = some b ∨ ∃ r ∈ m.rows, r.1.ownBlock = some b

abbrev mkl (ov : Value) (e : Int) : List Value := [ov, .int .i64 e]

structure GrOk (w : World) (N : Nat) (m : Gr) : Prop where
  base : N ≤ m.b
  blk : Blk w m.b 36 (mkl m.ov m.e)
  outer : w.ownsRow N 29 1 m.ov m.rows.length m.vals
  row : ∀ r ∈ m.rows, w.ownsRow N 3 1 r.1 r.2.length (ints r.2)
  ob : m.ov.ownBlock ≠ some m.b
  rb : ∀ r ∈ m.rows, r.1.ownBlock ≠ some m.b
  ro : ∀ r ∈ m.rows, ∀ b, r.1.ownBlock = some b → m.ov.ownBlock ≠ some b
  rr : ∀ (i j : Nat) (r s : Value × List Int) (b : Nat), m.rows[i]? = some r → m.rows[j]? = some s → r.1.ownBlock = some b → s.1.ownBlock = some b → i = j

theorem GrOk.lt {w : World} {N : Nat} {m : Gr} (h : GrOk w N m) {b : Nat} (hb : m.foot b) : N ≤ b ∧ b < w.heap.size := by
  rcases hb with rfl | hb | ⟨r, hr, hb⟩
  · exact ⟨h.base, h.blk.lt⟩
  · exact h.outer.lt b hb
  · exact (h.row r hr).lt b hb

theorem GrOk.keep {w w' : World} {N : Nat} {m : Gr} (h : GrOk w N m) (hk : ∀ b, m.foot b → w'.heap[b]? = w.heap[b]?) : GrOk w' N m :=
  ⟨h.base, h.blk.of_eq (hk _ (.inl rfl)), ownsRow_keep h.outer (fun b hb => hk b (.inr (.inl hb))), fun r hr => ownsRow_keep (h.row r hr) (fun b hb => hk b (.inr (.inr ⟨r, hr, hb⟩))), h.ob, h.rb, h.ro, h.rr⟩

theorem GrOk.alloc {w : World} {N : Nat} {m : Gr} (h : GrOk w N m) (o : Obj) : GrOk (w.alloc o) N m := h.keep fun b hb => Below.heap_alloc w o b (h.lt hb).2
theorem GrOk.drew {w : World} {N : Nat} {m : Gr} (h : GrOk w N m) : GrOk w.drew N m := h.keep fun _ _ => rfl
theorem GrOk.stl {w : World} {N : Nat} {m : Gr} (h : GrOk w N m) {b : Nat} (hb : ¬ m.foot b) (l : List Value) : GrOk (Fw.stl w b l) N m := h.keep fun _ hk => stl_other (fun e => hb (e ▸ hk))

/-- Row number j is turned: its new value lies in its old block, in a new one, or in none. -/
theorem GrOk.setRow {w w1 : World} {N j g n c : Nat} {m : Gr} {r : Value × List Int} {v' : Value} {xs' : List Int} (h : GrOk w N m) (hj : m.rows[j]? = some r) (hov : m.ov = .slice (some ⟨g, 0, none⟩) n c) (hg : w.grownBy w1 r.1.ownBlock)
    (hown : w1.ownsRow N 3 1 v' xs'.length (ints xs')) (hb : ∀ b, v'.ownBlock = some b → r.1.ownBlock = some b ∨ w.heap.size ≤ b) :
    ∃ l, Blk w1 g 29 l ∧ j < l.length ∧ GrOk (Fw.stl w1 g (l.set j v')) N ⟨m.b, m.e, m.ov, m.rows.set j (v', xs')⟩ := by
  have hjl : j < m.rows.length := by
    rcases Nat.lt_or_ge j m.rows.length with h' | h'
    · exact h'
    · simp [List.getElem?_eq_none h'] at hj
  have hmem : r ∈ m.rows := List.mem_of_getElem? hj
  have hog : m.ov.ownBlock = some g := by rw [hov]; rfl
  have hgm : g ≠ m.b := fun e => h.ob (e ▸ hog)
  have hblk : Blk w1 m.b 36 (mkl m.ov m.e) := h.blk.grown hg (fun e => h.rb r hmem e.symm)
  have hout : w1.ownsRow N 29 1 m.ov m.rows.length m.vals := ownsRow_keep h.outer (fun k hk => hg.block k (h.outer.lt k hk).2 (fun e => h.ro r hmem k e.symm hk))
  have hn : n = m.rows.length := by
    obtain ⟨a, c', hs⟩ := ownsRow_slice h.outer
    rw [hov] at hs
    cases hs
    rfl
  subst hn
  rw [hov] at hout
  obtain ⟨l, hl, hjl2, hset⟩ := ownsRow_set hout hjl
  refine ⟨l, hl, hjl2, ?_⟩
  have hbg : ∀ b, v'.ownBlock = some b → b ≠ g := fun b hvb => by
    rcases hb b hvb with hb | hb
    · exact fun e => h.ro r hmem b hb (e ▸ hog)
    · have := (h.outer.lt g hog).2; omega
  have hbm : ∀ b, v'.ownBlock = some b → b ≠ m.b := fun b hvb => by
    rcases hb b hvb with hb | hb
    · exact fun e => h.rb r hmem (e ▸ hb)
    · have := h.blk.lt; omega
  -- another row is as it was
  have hother : ∀ i s, m.rows[i]? = some s → i ≠ j → (∀ k, s.1.ownBlock = some k → v'.ownBlock ≠ some k ∧ k ≠ g ∧ w1.heap[k]? = w.heap[k]?) := fun i s hi hij k hk => by
    have hlt := ((h.row s (List.mem_of_getElem? hi)).lt k hk).2
    refine ⟨fun hvk => ?_, fun e => h.ro s (List.mem_of_getElem? hi) k hk (e ▸ hog), hg.block k hlt (fun e => hij (h.rr i j s r k hi hj hk e.symm))⟩
    rcases hb k hvk with hb | hb
    · exact hij (h.rr i j s r k hi hj hk hb)
    · omega
  have hget : ∀ i s, (m.rows.set j (v', xs'))[i]? = some s → (i = j ∧ s = (v', xs')) ∨ (i ≠ j ∧ m.rows[i]? = some s) := fun i s hi => by
    by_cases hij : i = j
    · subst hij
      rw [List.getElem?_set_self hjl] at hi
      exact .inl ⟨rfl, (Option.some.inj hi).symm⟩
    · rw [List.getElem?_set_ne (Ne.symm hij)] at hi
      exact .inr ⟨hij, hi⟩
  refine ⟨h.base, ?_, ?_, ?_, h.ob, ?_, ?_, ?_⟩
  · exact hblk.stl_ne (Ne.symm hgm)
  · have h1 : (m.rows.set j (v', xs')).length = m.rows.length := by simp
    have h2 : Gr.vals ⟨m.b, m.e, m.ov, m.rows.set j (v', xs')⟩ = m.vals.set j v' := by simp [Gr.vals, List.map_set]
    show (Fw.stl w1 g _).ownsRow N 29 1 m.ov (m.rows.set j _).length _
    rw [h1, h2, hov]
    exact hset _
  · intro s hs
    obtain ⟨i, hi⟩ := List.getElem?_of_mem hs
    rcases hget i s hi with ⟨rfl, rfl⟩ | ⟨hij, hi⟩
    · exact ownsRow_keep hown (fun k hk => stl_other (hbg k hk))
    · refine ownsRow_keep (h.row s (List.mem_of_getElem? hi)) (fun k hk => ?_)
      obtain ⟨_, h2, h3⟩ := hother i s hi hij k hk
      rw [stl_other h2, h3]
  · intro s hs
    obtain ⟨i, hi⟩ := List.getElem?_of_mem hs
    rcases hget i s hi with ⟨rfl, rfl⟩ | ⟨hij, hi⟩
    · exact fun e => hbm _ e rfl
    · exact h.rb s (List.mem_of_getElem? hi)
  · intro s hs k hk
    obtain ⟨i, hi⟩ := List.getElem?_of_mem hs
    rcases hget i s hi with ⟨rfl, rfl⟩ | ⟨hij, hi⟩
    · show m.ov.ownBlock ≠ some k
      rw [hog]
      exact fun e => hbg k hk (Option.some.inj e).symm
    · exact h.ro s (List.mem_of_getElem? hi) k hk
  · intro i i' s s' k hi hi' hs hs'
    rcases hget i s hi with ⟨h1, h2⟩ | ⟨hij, h1⟩
    · rcases hget i' s' hi' with ⟨h3, h4⟩ | ⟨hij', h3⟩
      · rw [h1, h3]
      · rw [h2] at hs
        exact absurd hs (hother i' s' h3 hij' _ hs').1
    · rcases hget i' s' hi' with ⟨h3, h4⟩ | ⟨hij', h3⟩
      · rw [h4] at hs'
        exact absurd hs' (hother i s h1 hij _ hs).1
      · exact h.rr i i' s s' k h1 h3 hs hs'

/-- Row number j lists one place more. -/
theorem GrOk.push {w w1 : World} {N j b cap g n c : Nat} {m : Gr} {r : Value × List Int} {x : Int} (h : GrOk w N m) (hj : m.rows[j]? = some r) (hov : m.ov = .slice (some ⟨g, 0, none⟩) n c) (hg : w.grownBy w1 r.1.ownBlock)
    (hown : w1.ownsRow N 3 1 (.slice (some ⟨b, 0, none⟩) (r.2.length + 1) cap) (r.2.length + 1) (ints (r.2 ++ [x])))
    (hb : r.1.ownBlock = some b ∨ w.heap.size ≤ b) :
    ∃ l, Blk w1 g 29 l ∧ j < l.length ∧
    GrOk (Fw.stl w1 g (l.set j (.slice (some ⟨b, 0, none⟩) (r.2.length + 1) cap))) N ⟨m.b, m.e, m.ov, m.rows.set j (.slice (some ⟨b, 0, none⟩) (r.2.length + 1) cap, r.2 ++ [x])⟩ :=
  GrOk.setRow h hj hov hg (by rw [List.length_append, List.length_singleton]; exact hown) (fun b' hb' => by simp [Value.ownBlock] at hb'; exact hb' ▸ hb)

theorem Gr.foot_set {m : Gr} {j s : Nat} {r : Value × List Int} {v' : Value} {xs' : List Int} (hj : m.rows[j]? = some r) (hb : ∀ b, v'.ownBlock = some b → r.1.ownBlock = some b ∨ s ≤ b) :
    ∀ b, Gr.foot ⟨m.b, m.e, m.ov, m.rows.set j (v', xs')⟩ b → m.foot b ∨ s ≤ b := by
  rintro b (rfl | hb' | ⟨r', hr', hb'⟩)
  · exact .inl (.inl rfl)
  · exact .inl (.inr (.inl hb'))
  · rcases List.mem_or_eq_of_mem_set hr' with hr' | rfl
    · exact .inl (.inr (.inr ⟨r', hr', hb'⟩))
    · rcases hb b hb' with h | h
      · exact .inl (.inr (.inr ⟨r, List.mem_of_getElem? hj, h⟩))
      · exact .inr h

def pushL (i : Nat) (x : Int) (ls : List (List Int)) : List (List Int) := ls.set i (ls.getD i [] ++ [x])

theorem ovSlice {w : World} {base E size n : Nat} {v : Value} {xs : List Value} (h : w.ownsRow base E size v n xs) : ∃ a c, v = .slice a n c := ownsRow_slice h

end Go.Proofs.Ybulkpka
