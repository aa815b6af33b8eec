/-
  Maps of the call's own: made, stored into, ranged over.
-/
import Derived.Test.YbulkpguFwMem
namespace Go.Fw
open Go.RowKit
attribute [local simp] Go.Fw.stl_size

def sto (w : World) (r : Nat) (o : Obj) : World := { w with heap := w.heap.setIfInBounds r o }

section
variable {w w0 : World} {r k : Nat} {o : Obj} {A0 A : Nat → Prop}
theorem sto_same (h : r < w.heap.size) : (sto w r o).heap[r]? = some o := by simp [sto, h]
theorem sto_other (h : k ≠ r) : (sto w r o).heap[k]? = w.heap[k]? := by simp [sto, Array.getElem?_setIfInBounds_ne (Ne.symm h)]
theorem sto_size : (sto w r o).heap.size = w.heap.size := by simp [sto]
attribute [local simp] sto_size
theorem Upd.sto (h : Upd w0 w A0 A) (hb : A r ∨ w0.heap.size ≤ r) : Upd w0 (Fw.sto w r o) A0 A := by
  refine ⟨h.os, h.tape, h.output, by simpa using h.size, fun k hk hn => ?_, h.sub⟩
  have hkb : k ≠ r := fun e => by
    subst e
    rcases hb with hb | hb
    · rcases h.sub k hb with h2 | h2
      · exact hn h2
      · omega
    · omega
  rw [sto_other hkb]
  exact h.keep k hk hn
theorem Blk.sto {b : Nat} {E : TypeId} {l : List Value} (h : Blk w b E l) (hb : b ≠ r) : Blk (Fw.sto w r o) b E l := h.of_eq (sto_other hb)
end

section
variable {P : Program} {e : List (Nat × Value)} {w : World} {dst : Option Nat} {ty : TypeId} {pos : String} {af : Array Edge} {g : Option (Nat × Bool)}

theorem Run.range {x : Operand} {T K E m clock : Nat} {es : Array MapEntry} (hT : P.underlying T = some (.map K E)) (hx : ev e x = some (.map (some m))) (hm : w.heap[m]? = some (.map es clock)) :
    Run P e ⟨dst, .range T x, ty, pos, af, g⟩ w (.ok (.value (.pointer (some ⟨w.heap.size, 0, none⟩))) (w.alloc (.mapIter (some m) clock #[] clock))) := by
  intro ρ hρ
  simp [execOp, hρ _ _ hx, Instr.range, run_underlying hT, getObj, Sem.run, hm]

theorem next_ex {r m since last clock : Nat} {seen : Array Nat} {es : Array MapEntry} (hr : w.heap[r]? = some (.mapIter (some m) since seen last)) (hm : w.heap[m]? = some (.map es clock))
    (hborn : ∀ x ∈ es, x.born < since) (hlast : ∃ x ∈ es, x.born < last) :
    (∃ x w1, x ∈ es ∧ x.born ∉ seen ∧ (w1 = w ∨ w1 = w.drew) ∧ ∀ ty, (Instr.next (.pointer (some ⟨r, 0, none⟩)) false ty).run P w = .ok (.tuple #[.bool true, x.key, x.val]) (sto w1 r (.mapIter (some m) since (seen.push x.born) clock))) ∨
    ((∀ x ∈ es, x.born ∈ seen) ∧ ∀ ty, (Instr.next (.pointer (some ⟨r, 0, none⟩)) false ty).run P w = .ok (.tuple #[.bool false]) w) := by
  obtain ⟨x0, hx0, hx0l⟩ := hlast
  have hall : (es.all fun x => decide (x.born ≥ last)) = false := by
    rw [Bool.eq_false_iff]
    intro h
    rw [Array.all_eq_true'] at h
    have := h x0 hx0
    simp at this
    omega
  have hnew : (es.filter fun x => !seen.contains x.born).filter (fun x => decide (x.born ≥ since)) = #[] := by
    apply Array.filter_eq_empty_iff.2
    intro x hx
    have := hborn x (Array.mem_filter.1 hx).1
    simp
    omega
  have hold : (es.filter fun x => !seen.contains x.born).filter (fun x => decide (x.born < since)) = es.filter fun x => !seen.contains x.born := by
    apply Array.filter_eq_self.2
    intro x hx
    have := hborn x (Array.mem_filter.1 hx).1
    simpa using this
  generalize hL : (es.filter fun x => !seen.contains x.born) = L at *
  have hcond : (!seen.isEmpty && !es.isEmpty && es.all fun x => decide (x.born ≥ last)) = false := by rw [hall]; simp
  have hg1 : (getObj r).run P w = .ok (.mapIter (some m) since seen last) w := by simp [getObj, Sem.run, hr]
  have hg2 : (getObj m).run P w = .ok (.map es clock) w := by simp [getObj, Sem.run, hm]
  by_cases hemp : L = #[]
  · right
    refine ⟨fun x hx => ?_, fun ty => ?_⟩
    · rw [hemp] at hL
      have := (Array.filter_eq_empty_iff.1 hL) x hx
      simpa using this
    · subst hemp
      simp only [Instr.next, Sem.run_bind, hg1, hg2, Result.andThen_ok, hcond, hnew, hold, hL]
      simp [Question.forced]
  · left
    have hpos : 0 < L.size := Nat.pos_of_ne_zero (fun h => hemp (Array.eq_empty_of_size_eq_zero h))
    have hcand : ((if L.isEmpty = true then #[none] else #[]) ++ (L ++ #[]).map some) = L.map some := by
      have : L.isEmpty = false := by rw [Bool.eq_false_iff]; intro h; exact hemp (by simpa using h)
      simp [this]
    obtain ⟨c, w1, hc, hw1, hrun⟩ : ∃ c w1, c < L.size ∧ (w1 = w ∨ w1 = w.drew) ∧ (choose (.mapNext (L.map some).size)).run P w = .ok c w1 := by
      rw [Array.size_map]
      by_cases hf : (Question.mapNext L.size).forced = true
      · exact ⟨0, w, hpos, .inl rfl, by rw [run_choose, if_pos hf]⟩
      · refine ⟨_, w.drew, ?_, .inr rfl, by rw [run_choose, if_neg hf]; rfl⟩
        exact Nat.mod_lt _ hpos
    have hget : (L.map some)[c]? = some (some L[c]) := by simp [hc]
    have hmem : L[c] ∈ es ∧ L[c].born ∉ seen := by
      have h1 : L[c] ∈ L := Array.getElem_mem hc
      have h2 : L[c] ∈ (es.filter fun x => !seen.contains x.born) := by rw [hL]; exact h1
      have := Array.mem_filter.1 h2
      exact ⟨this.1, by simpa using this.2⟩
    refine ⟨L[c], w1, hmem.1, hmem.2, hw1, fun ty => ?_⟩
    have hr1 : w1.heap[r]? = some (.mapIter (some m) since seen last) := by rcases hw1 with rfl | rfl <;> exact hr
    have hs1 : (setObj r (.mapIter (some m) since (seen.push L[c].born) clock)).run P w1 = .ok () (sto w1 r (.mapIter (some m) since (seen.push L[c].born) clock)) := by simp [setObj, Sem.run, hr1, sto]
    simp only [Instr.next, Sem.run_bind, hg1, hg2, Result.andThen_ok, hcond, hnew, hold, hL, hcand, Bool.false_eq_true, if_false]
    rw [hrun]
    simp only [Result.andThen_ok, hget, Sem.run_bind, hs1, Sem.run_pure]

theorem Run.mapNew {x y z : Operand} {T K E r clock : Nat} {es : Array MapEntry} {key val : Value} (hT : P.underlying T = some (.map K E)) (hx : ev e x = some (.map (some r))) (hy : ev e y = some key) (hz : ev e z = some val) (hr : w.heap[r]? = some (.map es clock))
    (hchk : (Instr.checkKey false 10000 K key).run P w = .ok () w) (hfind : (Instr.findKey K key es.toList).run P w = .ok none w) :
    Run P e ⟨dst, .mapUpdate T x y z, ty, pos, af, g⟩ w (.ok .skip (sto w r (.map (es.push ⟨key, val, clock⟩) (clock + 1)))) := by
  intro ρ hρ
  have hg : (getObj r).run P w = .ok (.map es clock) w := by simp [getObj, Sem.run, hr]
  have hs : (setObj r (.map (es.push ⟨key, val, clock⟩) (clock + 1))).run P w = .ok () (sto w r (.map (es.push ⟨key, val, clock⟩) (clock + 1))) := by simp [setObj, Sem.run, hr, sto]
  simp only [execOp, hρ _ _ hx, hρ _ _ hy, hρ _ _ hz, Instr.mapUpdate, Sem.run_bind, run_underlying hT, Result.andThen_ok, hg, hchk, hfind, hs, Sem.run_pure]

theorem Run.next {x : Operand} {v r : Value} {w' : World} (hx : ev e x = some v) (h : ∀ ty, (Instr.next v false ty).run P w = .ok r w') : Run P e ⟨dst, .next x false, ty, pos, af, g⟩ w (.ok (.value r) w') := by
  intro ρ hρ
  simp [execOp, hρ _ _ hx, h]

theorem Run.entry {x : Operand} {r m since clock : Nat} {seen : Array Nat} {es : Array MapEntry} {en : MapEntry} (hx : ev e x = some (.pointer (some ⟨r, 0, none⟩))) (hr : w.heap[r]? = some (.mapIter (some m) since (seen.push en.born) clock))
    (hm : w.heap[m]? = some (.map es clock)) (hf : es.find? (·.born == en.born) = some en) : Run P e ⟨dst, .entry x, ty, pos, af, g⟩ w (.ok (.value (.tuple #[en.key, en.val])) w) := by
  intro ρ hρ
  simp [execOp, hρ _ _ hx, Instr.entry, getObj, Sem.run, hr, hm, hf]
end
end Go.Fw
