/-
  A small frame of our own for walks over large functions: the frame of a call is known by a list of (slot, value), a block of memory is known whole.
-/
import Derived.Test.YbulkpguRows
import Derived.WalkKit
import Derived.ProofKit
import Derived.OrdersHeld
import Derived.Deep.LoopGhost
namespace Go.Fw
open Go.RowKit

/-! ### Slots -/
def look : List (Nat × Value) → Nat → Option Value
  | [], _ => none
  | (i, v) :: e, j => bif Nat.beq i j then some v else look e j

structure Has (a : Act) (n : Nat) (e : List (Nat × Value)) : Prop where
  size : a.tmps.size = n
  dfr : a.defers = []
  get : ∀ i v, look e i = some v → a.tmps[i]? = some v

def ev (e : List (Nat × Value)) : Operand → Option Value
  | .tmp t => look e t
  | .const v => some v
  | .global g => some (.pointer (some ⟨g, 0, none⟩))
  | .func f => some (.func (.func f) #[] #[])

def evs (e : List (Nat × Value)) : List Operand → Option (List Value)
  | [] => some []
  | x :: xs => match ev e x, evs e xs with
    | some v, some vs => some (v :: vs)
    | _, _ => none

theorem look_cons_ne {d i : Nat} {v : Value} {e : List (Nat × Value)} (h : d ≠ i) : look ((d, v) :: e) i = look e i := by
  have : Nat.beq d i = false := by
    cases hb : Nat.beq d i with
    | false => rfl
    | true => exact absurd (Nat.eq_of_beq_eq_true hb) h
  simp [look, this]
theorem look_cons_same {d : Nat} {v : Value} {e : List (Nat × Value)} : look ((d, v) :: e) d = some v := by
  simp [look]

theorem Has.put {a : Act} {n d : Nat} {v : Value} {e : List (Nat × Value)} (h : Has a n e) (hd : d < n) : Has (a.put (some d) v) n ((d, v) :: e) := by
  refine ⟨by simpa [Act.put] using h.size, by simpa [Act.put] using h.dfr, fun i u hu => ?_⟩
  by_cases hi : d = i
  · subst hi
    rw [look_cons_same] at hu
    cases hu
    have := h.size
    simp [Act.put, this, hd]
  · rw [look_cons_ne hi] at hu
    have := h.get i u hu
    simpa [Act.put, Array.getElem?_setIfInBounds_ne hi] using this

/-- What is known may be forgotten. -/
def Sub : List (Nat × Value) → List (Nat × Value) → Prop
  | [], _ => True
  | (i, v) :: r, e => look e i = some v ∧ Sub r e

theorem Sub.look : ∀ {r e : List (Nat × Value)}, Sub r e → ∀ i v, look r i = some v → look e i = some v
  | [], _, _, _, _, h => by simp [Fw.look] at h
  | (j, u) :: r, e, hs, i, v, h => by
    by_cases hi : j = i
    · subst hi
      rw [look_cons_same] at h
      cases h
      exact hs.1
    · rw [look_cons_ne hi] at h
      exact Sub.look hs.2 i v h

theorem Has.sub {a : Act} {n : Nat} {r e : List (Nat × Value)} (h : Has a n e) (hs : Sub r e) : Has a n r :=
  ⟨h.size, h.dfr, fun i v hv => h.get i v (hs.look i v hv)⟩

theorem Has.eval {a : Act} {n : Nat} {e : List (Nat × Value)} (h : Has a n e) {x : Operand} {v : Value} (hx : ev e x = some v) : a.eval x = v := by
  cases x with
  | tmp t => simp [Act.eval, Array.getD_eq_getD_getElem?, h.get t v hx]
  | const u => simp only [ev, Option.some.injEq] at hx; simp [Act.eval, hx]
  | global g => simp only [ev, Option.some.injEq] at hx; simp [Act.eval, hx]
  | func f => simp only [ev, Option.some.injEq] at hx; simp [Act.eval, hx]

def Agr (e : List (Nat × Value)) (ρ : Operand → Value) : Prop := ∀ x v, ev e x = some v → ρ x = v

theorem Has.agr {a : Act} {n : Nat} {e : List (Nat × Value)} (h : Has a n e) : Agr e a.eval := fun _ _ hx => h.eval hx

theorem Agr.evs {e : List (Nat × Value)} {ρ : Operand → Value} (h : Agr e ρ) : ∀ {xs : List Operand} {vs : List Value}, evs e xs = some vs → xs.map ρ = vs
  | [], vs, hx => by simp only [Fw.evs, Option.some.injEq] at hx; simp [← hx]
  | x :: xs, vs, hx => by
    simp only [Fw.evs] at hx
    cases hv : ev e x with
    | none => simp [hv] at hx
    | some v =>
      cases hvs : Fw.evs e xs with
      | none => simp [hv, hvs] at hx
      | some us =>
        simp only [hv, hvs, Option.some.injEq] at hx
        rw [← hx, List.map_cons, h x v hv, h.evs hvs]

/-! ### One operation -/
def Run (P : Program) (e : List (Nat × Value)) (o : Oper) (w : World) (r : Result Next) : Prop := ∀ ρ, Agr e ρ → (execOp ρ o).run P w = r

/-! ### A plain region's list of operations -/
def JL (P : Program) (ops : Array Oper) (Q : Exit → Act → World → Prop) (l : List Oper) (n : Nat) (e : List (Nat × Value)) (w : World) : Prop :=
  ∀ a, Has a n e → wpList P ops Q l a w

/-- Code. -/
def J (P : Program) (c : Code) (Q : Exit → Act → World → Prop) (n : Nat) (e : List (Nat × Value)) (w : World) : Prop :=
  ∀ a, Has a n e → c.wp P Q a w

section
variable {P : Program} {ops : Array Oper} {Q : Exit → Act → World → Prop} {n : Nat} {e : List (Nat × Value)} {w : World}

theorem JL.nil (h : ∀ a, Has a n e → Q .normal a w) : JL P ops Q [] n e w := fun a ha => h a ha

theorem JL.done {y : Code} (h : J P y Q n e w) : JL P ops (Exit.then (y.wp P Q) Q) [] n e w := fun a ha => h a ha

theorem JL.val {d : Nat} {op : Op} {ty : TypeId} {pos : String} {af : Array Edge} {l : List Oper} {v : Value} {w' : World}
    (hr : Run P e ⟨some d, op, ty, pos, af, none⟩ w (.ok (.value v) w')) (h : JL P ops Q l n ((d, v) :: e) w') (hd : d < n := by decide) :
    JL P ops Q (⟨some d, op, ty, pos, af, none⟩ :: l) n e w := by
  intro a ha
  refine wpList_plain rfl fun K hK => ?_
  unfold Oper.wp
  rw [hr _ ha.agr]
  exact hK _ _ (h _ (ha.put hd))

theorem JL.eff {op : Op} {ty : TypeId} {pos : String} {af : Array Edge} {l : List Oper} {w' : World}
    (hr : Run P e ⟨none, op, ty, pos, af, none⟩ w (.ok .skip w')) (h : JL P ops Q l n e w') :
    JL P ops Q (⟨none, op, ty, pos, af, none⟩ :: l) n e w := by
  intro a ha
  refine wpList_plain rfl fun K hK => ?_
  unfold Oper.wp
  rw [hr _ ha.agr]
  exact hK _ _ (h _ ha)

theorem JL.valNone {op : Op} {ty : TypeId} {pos : String} {af : Array Edge} {l : List Oper} {w' : World} {v : Value}
    (hr : Run P e ⟨none, op, ty, pos, af, none⟩ w (.ok (.value v) w')) (h : JL P ops Q l n e w') :
    JL P ops Q (⟨none, op, ty, pos, af, none⟩ :: l) n e w := by
  intro a ha
  refine wpList_plain rfl fun K hK => ?_
  unfold Oper.wp
  rw [hr _ ha.agr]
  exact hK _ _ (h _ ha)

theorem Has.yielded {a : Act} (ha : Has a n e) {j dj : Nat} {b : Bool} (hj : (ops[j]?).bind (·.dst) = some dj) (hl : look e dj = some (.bool b)) : Go.yielded ops a.tmps j = some b := by
  unfold Go.yielded
  rw [hj]
  simp [ha.get _ _ hl]

/-- A guarded operation that is wanted. -/
theorem JL.gval {d j dj : Nat} {b : Bool} {op : Op} {ty : TypeId} {pos : String} {af : Array Edge} {l : List Oper} {v : Value} {w' : World}
    (hj : (ops[j]?).bind (·.dst) = some dj) (hl : look e dj = some (.bool b))
    (hr : Run P e ⟨some d, op, ty, pos, af, some (j, b)⟩ w (.ok (.value v) w')) (h : JL P ops Q l n ((d, v) :: e) w') (hd : d < n := by decide) :
    JL P ops Q (⟨some d, op, ty, pos, af, some (j, b)⟩ :: l) n e w := by
  intro a ha
  refine wpList_step fun K hK => ?_
  have hw : Region.wanted ⟨some d, op, ty, pos, af, some (j, b)⟩ (yielded ops a.tmps) = true := by
    simp [Region.wanted, ha.yielded hj hl]
  rw [if_pos hw]
  unfold Oper.wp
  rw [hr _ ha.agr]
  exact hK _ _ (h _ (ha.put hd))

/-- A guarded operation that is not wanted. -/
theorem JL.gskip {d j dj : Nat} {b c : Bool} {op : Op} {ty : TypeId} {pos : String} {af : Array Edge} {l : List Oper}
    (hj : (ops[j]?).bind (·.dst) = some dj) (hl : look e dj = some (.bool b)) (h : JL P ops Q l n ((d, undef) :: e) w) (hbc : b = !c := by rfl) (hd : d < n := by decide) :
    JL P ops Q (⟨some d, op, ty, pos, af, some (j, c)⟩ :: l) n e w := by
  intro a ha
  refine wpList_step fun K hK => ?_
  have hw : ¬ Region.wanted ⟨some d, op, ty, pos, af, some (j, c)⟩ (yielded ops a.tmps) = true := by
    subst hbc
    cases c <;> simp [Region.wanted, ha.yielded hj hl]
  rw [if_neg hw]
  exact hK _ _ (h _ (ha.put hd))

/-- A call of a Go function, by its contract. -/
theorem JL.call {d f : Nat} {fn : Func} {c : Code} {args : Array Operand} {tys : Array TypeId} {ty : TypeId} {pos : String} {af : Array Edge} {l : List Oper} {vs : List Value}
    (hargs : evs e args.toList = some vs) (hf : P.funcs[f]? = some fn) (hb : fn.body = some c) (hnm : (fn.name == "runtime.NumGoroutine") = false)
    (hc : Calls P f vs.toArray w fun x w' => ∃ v, x = .returned v ∧ JL P ops Q l n ((d, v) :: e) w') (hd : d < n := by decide) :
    JL P ops Q (⟨some d, .call ⟨.value (.func f), args, tys⟩, ty, pos, af, none⟩ :: l) n e w := by
  intro a ha
  refine wpList_plain rfl fun K hK => ?_
  unfold Oper.wp
  have h1 : args.map a.eval = vs.toArray := by
    have := ha.agr.evs hargs
    rw [← this]
    apply Array.ext'
    simp
  have hx : (execOp a.eval ⟨some d, .call ⟨.value (.func f), args, tys⟩, ty, pos, af, none⟩).run P w = .ok (.enter f vs.toArray) w := by
    have hnm' : ¬ fn.name = "runtime.NumGoroutine" := by simpa using hnm
    simp [execOp, resolve, Deferred.ofValue, Act.eval, invoke, callFunc, h1, hf, hb, hnm']
  rw [hx]
  refine Calls.mono hc fun x w' hx => ?_
  obtain ⟨v, rfl, h⟩ := hx
  exact hK _ _ (h _ (ha.put hd))

/-! ### Code -/
theorem J.sub {c : Code} {r : List (Nat × Value)} (hs : Sub r e) (h : J P c Q n r w) : J P c Q n e w := fun a ha => h a (ha.sub hs)
theorem JL.sub {l : List Oper} {r : List (Nat × Value)} (hs : Sub r e) (h : JL P ops Q l n r w) : JL P ops Q l n e w := fun a ha => h a (ha.sub hs)
theorem J.seq {x y : Code} (h : J P x (Exit.then (y.wp P Q) Q) n e w) : J P (.seq x y) Q n e w := fun a ha => wp_seq (h a ha)
theorem J.region {id : Nat} {l : List Oper} (h : JL P l.toArray Q l n e w) : J P (.region id l.toArray false) Q n e w := fun a ha => wp_region_lit (h a ha)
theorem J.skip (h : ∀ a, Has a n e → Q .normal a w) : J P .skip Q n e w := fun a ha => wp_skip (h a ha)
theorem J.skipThen {y : Code} (h : J P y Q n e w) : J P .skip (Exit.then (y.wp P Q) Q) n e w := fun a ha => wp_skip (h a ha)
theorem J.ret (h : ∀ a, Has a n e → Q .ret a w) : J P .ret Q n e w := fun a ha => wp_ret (h a ha)
theorem J.exit {id : Nat} (h : ∀ a, Has a n e → Q (.exit id) a w) : J P (.exit id) Q n e w := fun a ha => wp_exit (h a ha)
theorem J.block {id : Nat} {c : Code} (h : J P c (Exit.inBlock id Q) n e w) : J P (.block id c) Q n e w := fun a ha => wp_block (h a ha)
theorem J.condT {c : Operand} {x y : Code} {b : Bool} (hc : ev e c = some (.bool b)) (hb : b = true) (h : J P x Q n e w) : J P (.cond c x y) Q n e w :=
  fun a ha => wp_cond_true (by rw [ha.eval hc, hb]) (h a ha)
theorem J.condF {c : Operand} {x y : Code} {b : Bool} (hc : ev e c = some (.bool b)) (hb : b = false) (h : J P y Q n e w) : J P (.cond c x y) Q n e w :=
  fun a ha => wp_cond_false (by rw [ha.eval hc, hb]) (h a ha)
theorem J.cond {c : Operand} {x y : Code} {b : Bool} (hc : ev e c = some (.bool b)) (ht : b = true → J P x Q n e w) (hf : b = false → J P y Q n e w) : J P (.cond c x y) Q n e w :=
  fun a ha => wp_cond_split (ha.eval hc) (fun h => ht h a ha) (fun h => hf h a ha)
theorem J.mono {c : Code} {Q' : Exit → Act → World → Prop} (h : J P c Q n e w) (hq : ∀ x a w, Q x a w → Q' x a w) : J P c Q' n e w := fun a ha => wp_mono (h a ha) hq

/-- Where a region, a skip or an exit ends, and code 'y' follows: 'hQ' by 'fun _ _ h => h'. -/
theorem JL.to {y : Code} {Q' : Exit → Act → World → Prop} (hQ : ∀ a w, Code.wp P y Q' a w → Q .normal a w) (h : J P y Q' n e w) : JL P ops Q [] n e w := fun a ha => hQ a w (h a ha)
theorem J.skipTo {y : Code} {Q' : Exit → Act → World → Prop} (hQ : ∀ a w, Code.wp P y Q' a w → Q .normal a w) (h : J P y Q' n e w) : J P .skip Q n e w := J.skip fun a ha => hQ a w (h a ha)
theorem J.exitTo {id : Nat} {y : Code} {Q' : Exit → Act → World → Prop} (hQ : ∀ a w, Code.wp P y Q' a w → Q (.exit id) a w) (h : J P y Q' n e w) : J P (.exit id) Q n e w := J.exit fun a ha => hQ a w (h a ha)

/-- A loop: 'ι': what the invariant bears; 'E': the slots; 'W': the world; 'μ': a number that every round lowers. -/
theorem J.loop {c : Code} {ι : Type} (E : ι → List (Nat × Value)) (W : ι → World → Prop) (μ : ι → Nat) (i₀ : ι) (hE : Sub (E i₀) e) (hW : W i₀ w)
    (round : ∀ i w, W i w → J P c (Exit.then (fun a' w' => ∃ i', μ i' < μ i ∧ Has a' n (E i') ∧ W i' w') Q) n (E i) w) : J P (.loop c) Q n e w := by
  intro a ha
  refine wp_loop_ghost (fun m a w => ∃ i, μ i = m ∧ Has a n (E i) ∧ W i w) (μ i₀) ⟨i₀, rfl, ha.sub hE, hW⟩ ?_
  rintro m a w ⟨i, rfl, ha, hw⟩
  refine wp_mono (round i w hw a ha) ?_
  intro x a' w' hq
  cases x with
  | normal =>
    obtain ⟨i', hlt, hh, hw'⟩ := hq
    exact ⟨μ i', hlt, i', rfl, hh, hw'⟩
  | exit id => exact hq
  | goto l => exact hq
  | ret => exact hq
  | panic ch => exact hq
  | outgrown => exact hq

/-- A call's contract from its body. -/
theorem calls {f : FuncId} {fn : Func} {c : Code} {args : List Value} {R : Ending → World → Prop} {m : Nat}
    (hf : P.funcs[f]? = some fn) (hb : fn.body = some c) (hn : fn.ntmps = n) (hm : args.length = m) (hmn : m ≤ n)
    (h : J P c (bodyPost P fn R) n ((List.range m).zip args) w) : Calls P f args.toArray w R := by
  refine calls_of_wp hf hb (h _ ⟨by simp [hn, hm]; omega, rfl, ?_⟩)
  intro i v hv
  have key : ∀ (k : Nat) (vs : List Value), look ((List.range' k vs.length).zip vs) i = some v → k ≤ i ∧ vs[i - k]? = some v := by
    intro k vs
    induction vs generalizing k with
    | nil => intro h; simp [look] at h
    | cons x vs ih =>
      intro h
      rw [List.length_cons, List.range'_succ, List.zip_cons_cons] at h
      by_cases hk : k = i
      · subst hk
        rw [look_cons_same] at h
        simpa using h
      · rw [look_cons_ne hk] at h
        obtain ⟨h1, h2⟩ := ih (k + 1) h
        refine ⟨by omega, ?_⟩
        rw [show i - k = (i - (k + 1)) + 1 from by omega]
        simpa using h2
  rw [← hm, List.range_eq_range'] at hv
  have h2 := (key 0 args hv).2
  simp only [Nat.sub_zero] at h2
  have hi : i < args.length := by
    rcases Nat.lt_or_ge i args.length with h | h
    · exact h
    · simp [List.getElem?_eq_none h] at h2
  show (args.toArray ++ _)[i]? = some v
  rw [Array.getElem?_append_left (by simpa using hi)]
  simpa using h2

theorem Has.getD {a : Act} (ha : Has a n e) {t : Nat} {v : Value} (hv : look e t = some v) : a.tmps.getD t undef = v := by
  simp [Array.getD_eq_getD_getElem?, ha.get t v hv]

/-- The end of a call: one result. 'hQ' by 'fun _ _ h => h'. -/
theorem J.ret1 (fn : Func) (R : Ending → World → Prop) {t : Nat} {v : Value} (hQ : ∀ a w, bodyPost P fn R .ret a w → Q .ret a w) (hr : fn.results = #[.tmp t]) (hv : look e t = some v) (h : R (.returned v) w) : J P .ret Q n e w :=
  J.ret fun a ha => hQ a w (bodyPost_ret (by rw [results_tmp hr, ha.getD hv]) ha.dfr h)

theorem J.ret2 (fn : Func) (R : Ending → World → Prop) {t t' : Nat} {v v' : Value} (hQ : ∀ a w, bodyPost P fn R .ret a w → Q .ret a w) (hr : fn.results = #[.tmp t, .tmp t']) (hv : look e t = some v) (hv' : look e t' = some v')
    (h : R (.returned (.tuple #[v, v'])) w) : J P .ret Q n e w :=
  J.ret fun a ha => hQ a w (bodyPost_ret (by rw [results_tmp2 hr, ha.getD hv, ha.getD hv']) ha.dfr h)

theorem J.ret3 (fn : Func) (R : Ending → World → Prop) {t t' t'' : Nat} {v v' v'' : Value} (hQ : ∀ a w, bodyPost P fn R .ret a w → Q .ret a w) (hr : fn.results = #[.tmp t, .tmp t', .tmp t'']) (hv : look e t = some v) (hv' : look e t' = some v') (hv'' : look e t'' = some v'')
    (h : R (.returned (.tuple #[v, v', v''])) w) : J P .ret Q n e w :=
  J.ret fun a ha => hQ a w (bodyPost_ret (by rw [results_tmp3 hr, ha.getD hv, ha.getD hv', ha.getD hv'']) ha.dfr h)

theorem J.ret0 (fn : Func) (R : Ending → World → Prop) (hQ : ∀ a w, bodyPost P fn R .ret a w → Q .ret a w) (hr : fn.results = #[]) (h : R (.returned (.tuple #[])) w) : J P .ret Q n e w :=
  J.ret fun a ha => hQ a w (bodyPost_ret (by rw [results_none hr]) ha.dfr h)

/-- The end of a call without a result, by its body's end. -/
theorem fall0 (fn : Func) (R : Ending → World → Prop) (hr : fn.results = #[]) (h : R (.returned (.tuple #[])) w) : ∀ a, Has a n e → bodyPost P fn R .normal a w :=
  fun _ ha => bodyPost_end (by rw [results_none hr]) ha.dfr h

end
end Go.Fw
