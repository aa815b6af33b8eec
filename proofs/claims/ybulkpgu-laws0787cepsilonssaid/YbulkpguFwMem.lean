/-
  Footprints; rows of the call's own; more operations.
-/
import Derived.Test.YbulkpguFwApp
namespace Go.Fw
open Go.RowKit
attribute [local simp] Go.Fw.stl_size

/-! ### What a stretch of the walk may have changed: of what was there, only blocks of A0; A: what is owned now -/
structure Upd (w0 w : World) (A0 A : Nat → Prop) : Prop where
  os : w.os = w0.os
  tape : w.tape = w0.tape
  output : w.output = w0.output
  size : w0.heap.size ≤ w.heap.size
  keep : ∀ b, b < w0.heap.size → ¬ A0 b → w.heap[b]? = w0.heap[b]?
  sub : ∀ b, A b → A0 b ∨ w0.heap.size ≤ b

section
variable {w0 w w' : World} {A0 A A' : Nat → Prop}

theorem Upd.refl (w : World) (A : Nat → Prop) : Upd w w A A := ⟨rfl, rfl, rfl, Nat.le_refl _, fun _ _ _ => rfl, fun _ h => .inl h⟩
theorem Upd.trans (h : Upd w0 w A0 A) (h' : Upd w w' A A') : Upd w0 w' A0 A' := by
  refine ⟨h'.os.trans h.os, h'.tape.trans h.tape, h'.output.trans h.output, Nat.le_trans h.size h'.size, fun b hb hA => ?_, fun b hb => ?_⟩
  · have h1 : ¬ A b := fun hb' => by
      rcases h.sub b hb' with h2 | h2
      · exact hA h2
      · omega
    exact (h'.keep b (Nat.lt_of_lt_of_le hb h.size) h1).trans (h.keep b hb hA)
  · rcases h'.sub b hb with h2 | h2
    · exact h.sub b h2
    · exact .inr (Nat.le_trans h.size h2)
theorem Upd.mono (h : Upd w0 w A0 A) (hA : ∀ b, A' b → A b) : Upd w0 w A0 A' := ⟨h.os, h.tape, h.output, h.size, h.keep, fun b hb => h.sub b (hA b hb)⟩
theorem Upd.weak {A1 : Nat → Prop} (h : Upd w0 w A0 A) (hA : ∀ b, A0 b → A1 b) : Upd w0 w A1 A :=
  ⟨h.os, h.tape, h.output, h.size, fun b hb hn => h.keep b hb (fun h0 => hn (hA b h0)), fun b hb => (h.sub b hb).imp (hA b) id⟩
theorem Upd.alloc (h : Upd w0 w A0 A) (o : Obj) : Upd w0 (w.alloc o) A0 A :=
  h.trans ⟨rfl, rfl, rfl, by simp, fun b hb _ => Below.heap_alloc w o b hb, fun _ h => .inl h⟩
theorem Upd.drew (h : Upd w0 w A0 A) : Upd w0 w.drew A0 A := h.trans ⟨rfl, rfl, rfl, Nat.le_refl _, fun _ _ _ => rfl, fun _ h => .inl h⟩
theorem Upd.grown {row : Option Nat} (h : Upd w0 w A0 A) (hg : w.grownBy w' row) (hrow : ∀ b, row = some b → A b) (hA' : ∀ b, A' b → A b ∨ w.heap.size ≤ b) : Upd w0 w' A0 A' :=
  h.trans ⟨hg.os, hg.tape, hg.output, hg.size, fun b hb hn => hg.block b hb (fun e => hn (hrow b e.symm)), hA'⟩
theorem Upd.stl (h : Upd w0 w A0 A) {b : Nat} (hb : A b ∨ w0.heap.size ≤ b) (l : List Value) : Upd w0 (Fw.stl w b l) A0 A := by
  refine ⟨h.os, h.tape, h.output, by simpa using h.size, fun k hk hn => ?_, h.sub⟩
  have hkb : k ≠ b := fun e => by
    subst e
    rcases hb with hb | hb
    · rcases h.sub k hb with h2 | h2
      · exact hn h2
      · omega
    · omega
  rw [stl_other hkb]
  exact h.keep k hk hn
theorem Upd.below {B : Nat} (h : Upd w0 w A0 A) (hB : B ≤ w0.heap.size) (hA : ∀ b, A0 b → B ≤ b) : Below B w0 w :=
  ⟨h.os, h.tape, h.output, h.size, fun k hk => h.keep k (by omega) (fun h0 => by have := hA k h0; omega)⟩
theorem Upd.cell (h : Upd w0 w A0 A) {a : Addr} {v : Value} (hc : w0.cell? a = some v) (hn : ¬ A0 a.block) : w.cell? a = some v := by
  rw [World.cell?_of_block (h.keep a.block (World.block_lt_of_cell? w0 a hc) hn)]; exact hc
theorem Upd.blk (h : Upd w0 w A0 A) {b : Nat} {E : TypeId} {l : List Value} (hb : Blk w0 b E l) (hn : ¬ A0 b) : Blk w b E l := hb.of_eq (h.keep b hb.lt hn)
end

/-! ### Rows -/
section
variable {w : World} {base E n cap g : Nat} {v : Value} {xs : List Value}

theorem ownsRow_slice {size : Nat} (h : w.ownsRow base E size v n xs) : ∃ a c, v = .slice a n c := by
  rcases h.2 with ⟨rfl, rfl⟩ | ⟨g, cap, cur, rfl, _⟩
  · exact ⟨none, 0, rfl⟩
  · exact ⟨_, _, rfl⟩
theorem ownsRow_one {size : Nat} (h : w.ownsRow base E size v n xs) : v.oneCell' = true := by
  obtain ⟨a, c, rfl⟩ := ownsRow_slice h
  rfl
theorem ownsRow_some {size : Nat} (h : w.ownsRow base E size v n xs) (hn : 0 < n) : ∃ g cap, v = .slice (some ⟨g, 0, none⟩) n cap := by
  rcases h.2 with ⟨rfl, rfl⟩ | ⟨g, cap, cur, rfl, _⟩
  · omega
  · exact ⟨_, _, rfl⟩
theorem ownsRow_cell {size : Nat} (h : w.ownsRow base E size (.slice (some ⟨g, 0, none⟩) n cap) n xs) {j : Nat} {u : Value} (hj : xs[j]? = some u) : w.cell? ⟨g, j, none⟩ = some u := by
  have := h.cells (g := g) rfl j u hj
  rwa [addr_add, Nat.zero_add] at this
theorem ownsRow_keep {size : Nat} {w' : World} (h : w.ownsRow base E size v n xs) (hk : ∀ b, v.ownBlock = some b → w'.heap[b]? = w.heap[b]?) : w'.ownsRow base E size v n xs := by
  refine ⟨h.1, ?_⟩
  rcases h.2 with hn | ⟨g, cap, cur, rfl, hb, hgg, rest⟩
  · exact .inl hn
  · exact .inr ⟨g, cap, cur, rfl, hb, by rw [hk g rfl]; exact hgg, rest⟩
/-- One element of one cell is stored. -/
theorem ownsRow_set (h : w.ownsRow base E 1 (.slice (some ⟨g, 0, none⟩) n cap) n xs) {j : Nat} (hj : j < n) :
    ∃ l, Blk w g E l ∧ j < l.length ∧ ∀ u, (stl w g (l.set j u)).ownsRow base E 1 (.slice (some ⟨g, 0, none⟩) n cap) n (xs.set j u) := by
  rcases h.2 with ⟨h0, _⟩ | ⟨g', cap', cur, hv, hb, hgg, hnc, hcm, hcs, htake⟩
  · cases h0
  · cases hv
    refine ⟨cur.toList, by simpa [Blk] using hgg, by simp; omega, fun u => ⟨by simpa using h.1, .inr ⟨g, cap, (cur.toList.set j u).toArray, rfl, hb, setRow_heap w g cur _ E _ hgg, hnc, hcm, by simpa using hcs, ?_⟩⟩⟩
    rw [← htake, List.take_set]
/-- Its length is cut to 0: the row stays. -/
theorem ownsRow_zero (h : w.ownsRow base E 1 (.slice (some ⟨g, 0, none⟩) n cap) n xs) : w.ownsRow base E 1 (.slice (some ⟨g, 0, none⟩) 0 cap) 0 [] := by
  rcases h.2 with ⟨h0, _⟩ | ⟨g', cap', cur, hv, hb, hgg, hnc, hcm, hcs, htake⟩
  · cases h0
  · cases hv
    exact ⟨by simp, .inr ⟨g, cap, cur, rfl, hb, hgg, Nat.zero_le _, hcm, hcs, by simp⟩⟩
theorem ownsRow_of_blk {size : Nat} {l : List Value} (hb : Blk w g E l) (hbase : base ≤ g) (hl : l.length = n * size) (hm : n ≤ maxLen) : w.ownsRow base E size (.slice (some ⟨g, 0, none⟩) n n) n l :=
  ⟨hl, .inr ⟨g, n, l.toArray, rfl, hbase, hb, Nat.le_refl _, hm, by simpa using hl, by rw [← hl]; simp⟩⟩
end

/-! ### A variable of a struct's or an array's type, made and filled -/
theorem stl_alloc (w : World) (T : TypeId) (l cs : List Value) : stl (w.alloc (.cells l.toArray T)) w.heap.size cs = w.alloc (.cells cs.toArray T) := by
  have h : (stl (w.alloc (.cells l.toArray T)) w.heap.size cs).heap = (w.alloc (.cells cs.toArray T)).heap := by
    apply Array.ext_getElem?
    intro i
    by_cases hi : i = w.heap.size
    · subst hi
      rw [show (stl (w.alloc (.cells l.toArray T)) w.heap.size cs).heap[w.heap.size]? = _ from (Blk.new w T l).stl cs, heap_alloc_new]
    · rw [stl_other hi]
      show (w.heap.push _)[i]? = (w.heap.push _)[i]?
      simp [Array.getElem?_push, hi]
  show ({ w with heap := _ } : World) = { w with heap := _ }
  exact congrArg (fun x => ({ w with heap := x } : World)) h
section
variable {P : Program} {e : List (Nat × Value)} {w : World} {dst : Option Nat} {ty : TypeId} {pos : String} {af : Array Edge} {g : Option (Nat × Bool)}
theorem Run.storeNew {x y : Operand} {T T' : Nat} {l cs : List Value} (hT : P.cellsOf T = cs.length) (hp : 0 < cs.length) (hx : ev e x = some (.pointer (some ⟨w.heap.size, 0, none⟩))) (hy : ev e y = some (.agg cs.toArray)) (h1 : ∀ v ∈ cs, v.oneCell' = true)
    (hl : l.length = cs.length) : Run P e ⟨dst, .store T x y, ty, pos, af, g⟩ (w.alloc (.cells l.toArray T')) (.ok .skip (w.alloc (.cells cs.toArray T'))) := by
  have h := Run.storeA (P := P) (dst := dst) (ty := ty) (pos := pos) (af := af) (g := g) hT hp hx hy h1 (Blk.new w T' l) (by omega)
  have hs : l.take 0 ++ cs ++ l.drop (0 + cs.length) = cs := by simp; omega
  rw [hs, stl_alloc] at h
  exact h
end

/-! ### Sequence with a meeting point -/
section
variable {P : Program} {Q : Exit → Act → World → Prop} {n : Nat} {e : List (Nat × Value)} {w : World}
theorem J.mid {x z : Code} {ι : Type} (E : ι → List (Nat × Value)) (W : ι → World → Prop) (h1 : J P x (Exit.then (fun a w' => ∃ i, Has a n (E i) ∧ W i w') Q) n e w)
    (h2 : ∀ i w', W i w' → J P z Q n (E i) w') : J P (.seq x z) Q n e w := by
  refine J.seq (h1.mono ?_)
  intro y a w' hq
  cases y with
  | normal => obtain ⟨i, ha, hw⟩ := hq; exact h2 i w' hw a ha
  | exit id => exact hq
  | goto l => exact hq
  | ret => exact hq
  | panic ch => exact hq
  | outgrown => exact hq
end

/-! ### A call under a guard that is met -/
section
variable {P : Program} {ops : Array Oper} {Q : Exit → Act → World → Prop} {n : Nat} {e : List (Nat × Value)} {w : World}
theorem JL.gcall {d f j dj : Nat} {b : Bool} {fn : Func} {c : Code} {args : Array Operand} {tys : Array TypeId} {ty : TypeId} {pos : String} {af : Array Edge} {l : List Oper} {vs : List Value}
    (hj : (ops[j]?).bind (·.dst) = some dj) (hl : look e dj = some (.bool b))
    (hargs : evs e args.toList = some vs) (hf : P.funcs[f]? = some fn) (hb : fn.body = some c) (hnm : (fn.name == "runtime.NumGoroutine") = false)
    (hc : Calls P f vs.toArray w fun x w' => ∃ v, x = .returned v ∧ JL P ops Q l n ((d, v) :: e) w') (hd : d < n := by decide) :
    JL P ops Q (⟨some d, .call ⟨.value (.func f), args, tys⟩, ty, pos, af, some (j, b)⟩ :: l) n e w := by
  intro a ha
  refine wpList_step fun K hK => ?_
  have hw : Region.wanted ⟨some d, .call ⟨.value (.func f), args, tys⟩, ty, pos, af, some (j, b)⟩ (yielded ops a.tmps) = true := by
    simp [Region.wanted, ha.yielded hj hl]
  rw [if_pos hw]
  unfold Oper.wp
  have h1 : args.map a.eval = vs.toArray := by
    have := ha.agr.evs hargs
    rw [← this]
    apply Array.ext'
    simp
  have hx : (execOp a.eval ⟨some d, .call ⟨.value (.func f), args, tys⟩, ty, pos, af, some (j, b)⟩).run P w = .ok (.enter f vs.toArray) w := by
    have hnm' : ¬ fn.name = "runtime.NumGoroutine" := by simpa using hnm
    simp [execOp, resolve, Deferred.ofValue, Act.eval, invoke, callFunc, h1, hf, hb, hnm']
  rw [hx]
  refine Calls.mono hc fun x w' hx => ?_
  obtain ⟨v, rfl, h⟩ := hx
  exact hK _ _ (h _ (ha.put hd))
end

/-! ### Tests that are decided -/
section
variable {P : Program} {e : List (Nat × Value)} {w : World} {dst : Option Nat} {ty : TypeId} {pos : String} {af : Array Edge} {g : Option (Nat × Bool)}
theorem Run.to {o : Oper} {v v' : Value} {w' : World} (h : Run P e o w (.ok (.value v) w')) (hv : v = v') : Run P e o w (.ok (.value v') w') := hv ▸ h
theorem bd {p : Prop} [Decidable p] {b : Bool} (h : decide p = b) : Value.bool (decide p) = Value.bool b := by rw [h]
theorem bt {p : Prop} [Decidable p] (h : p) : Value.bool (decide p) = Value.bool true := by rw [decide_eq_true h]
theorem bf {p : Prop} [Decidable p] (h : ¬ p) : Value.bool (decide p) = Value.bool false := by rw [decide_eq_false h]

/-- 'p != q' at one and the same address. -/
theorem Run.neqPtr {x y : Operand} {T E U k' : Nat} {a : Addr} (hT : P.underlying T = some (.pointer E)) (hE : P.cellsOf E = k') (hk : 0 < k') (hx : ev e x = some (.pointer (some a))) (hy : ev e y = some (.pointer (some a))) :
    Run P e ⟨dst, .binOp .neq T x y U, ty, pos, af, g⟩ w (.ok (.value (.bool false)) w) := by
  intro ρ hρ
  have h : (Op.equal T (.pointer (some a)) (.pointer (some a))).run P w = .ok true w := by
    have hd : ∀ d, (Op.equalIn (d + 1) T (.pointer (some a)) (.pointer (some a))).run P w = .ok true w := fun d => by
      simp [Op.equalIn, run_underlying hT, run_sizeOf hE hk, sameAddr]
    exact hd 9999
  simp [execOp, hρ _ _ hx, hρ _ _ hy, eqGuard, binOp, h]

/-- x[:h] -/
theorem Run.sliceHi {x y : Operand} {T E k l c h : Nat} {a : Option Addr} {kk : IntKind} (hT : P.underlying T = some (.slice E)) (hE : P.cellsOf E = k) (hk : 0 < k) (hx : ev e x = some (.slice a l c)) (hy : ev e y = some (.int kk (h : Int))) (hc : h ≤ c) :
    Run P e ⟨dst, .slice T x none (some y) none, ty, pos, af, g⟩ w (.ok (.value (.slice a h c)) w) := by
  intro ρ hρ
  have h1 : (h : Int) ≤ (c : Int) := by omega
  have ha : (a.map fun x => x.add 0) = a := by cases a <;> simp [Addr.add]
  simp [execOp, hρ _ _ hx, hρ _ _ hy, Instr.sliceAt, Instr.slice, Instr.sliceBounds, Instr.sliceBound, asIntOf, run_underlying hT, run_sizeOf hE hk, hc, ha]
end
end Go.Fw
