/-
  A region that draws its order, walked in ONE order: what is quiet is taken as soon as it may come up; what is loud must be the only one that may come up then. After Derived/OrdersHeld.lean's law; the condition S need not hold behind operation number k (a last store).
-/
import Derived.Test.YbulkpguFwOps
namespace Go.Fw
open Go.RowKit
attribute [local simp] Go.Fw.stl_size

section
variable {P : Program} {ops : Array Oper} {Q : Exit → Act → World → Prop} {md : Region.Mode} {S : World → Prop} {k : Nat}

def wpAnyK (P : Program) (md : Region.Mode) (ops : Array Oper) (Q : Exit → Act → World → Prop) (S : World → Prop) (k : Nat) : Nat → Array Bool → Act → World → Prop
  | 0, listed, a, w => Region.ready md ops listed = [] ∧ Q .normal a w
  | fuel + 1, listed, a, w =>
    (Region.ready md ops listed = [] → Q .normal a w) ∧
    ∀ i ∈ Region.ready md ops listed, wpOp P ops Q i (fun a' w' => (i ≠ k → S w') ∧ wpAnyK P md ops Q S k fuel (listed.setIfInBounds i true) a' w') a w

theorem wpAny_of_K : ∀ (fuel : Nat) (listed : Array Bool) (a : Act) (w : World), wpAnyK P md ops Q S k fuel listed a w → wpAny P md ops Q fuel listed a w
  | 0, _, _, _, h => h
  | fuel + 1, _, _, _, h => ⟨h.1, fun i hi => wpOp_mono (fun a' w' h' => wpAny_of_K fuel _ a' w' h'.2) (h.2 i hi)⟩

theorem wpAnyK_first {i : Nat} {oi : Oper} {v : Value} (hi : ops[i]? = some oi) (hsel : ∀ (j : Nat) (o : Oper) cs b, ops[j]? = some o → o.op ≠ .select cs b)
    (hQ : ∀ c a w, Q (.panic c) (a.put oi.dst v) w → Q (.panic c) a w) (hik : i ≠ k)
    (hwait : ∀ ok, ops[k]? = some ok → ∃ e ∈ ok.after, Region.binds md e = true ∧ e.on = i) :
    ∀ (fuel : Nat) (listed : Array Bool) (a : Act) (w : World),
      (∀ j oj, ops[j]? = some oj → j ≠ i → listed.getD j true = false → (∀ e ∈ oj.after, Region.binds md e = true → e.on ≠ i) → oi.apart ops oj = true) →
      i ∈ Region.ready md ops listed → YieldsIf P ops S oi v a → S w →
      wpAnyK P md ops Q S k fuel (listed.setIfInBounds i true) (a.put oi.dst v) w → wpAnyK P md ops Q S k (fuel + 1) listed a w := by
  intro fuel
  induction fuel with
  | zero =>
    intro listed a w _ hr hy hS H
    refine ⟨fun h => (by rw [h] at hr; cases hr), fun j hj => ?_⟩
    by_cases hji : j = i
    · subst hji; exact hy.wpOp hi hS ⟨fun _ => hS, H⟩
    · have := ready_mono hj hji
      rw [H.1] at this
      cases this
  | succ fuel ih =>
    intro listed a w hfree hr hy hS H
    refine ⟨fun h => (by rw [h] at hr; cases hr), fun j hj => ?_⟩
    by_cases hji : j = i
    · subst hji; exact hy.wpOp hi hS ⟨fun _ => hS, H⟩
    · have h1 := H.2 j (ready_mono hj hji)
      obtain ⟨hjun, oj, hoj, hall⟩ := mem_ready.1 hj
      have hnot : ∀ e ∈ oj.after, Region.binds md e = true → e.on ≠ i := fun e he hb heq => by
        have h1 := hall e he hb
        have h0 := (mem_ready.1 hr).1
        rw [heq] at h1
        rcases Nat.lt_or_ge i listed.size with h' | h'
        · simp [h'] at h0 h1; rw [h0] at h1; cases h1
        · simp [Array.getElem?_eq_none h'] at h1
      have hjk : j ≠ k := fun hjk => by
        subst hjk
        obtain ⟨e, he, hb, heq⟩ := hwait oj hoj
        exact hnot e he hb heq
      have h2 := wpOp_putIf hoj (hfree j oj hoj hji hjun hnot) (fun cs b => hsel i oi cs b hi) (fun cs b => hsel j oj cs b hoj) hQ hy h1
      have hfree' : ∀ k ok, ops[k]? = some ok → k ≠ i → (listed.setIfInBounds j true).getD k true = false →
          (∀ e ∈ ok.after, Region.binds md e = true → e.on ≠ i) → oi.apart ops ok = true := fun k ok hk hki hun hno => by
        refine hfree k ok hk hki ?_ hno
        by_cases hjk : j = k
        · subst hjk; exact hjun
        · rw [getD_set_ne true hjk] at hun; exact hun
      refine wpOp_mono (fun a' w' h3 => ⟨h3.2.1, ih (listed.setIfInBounds j true) a' w' hfree' (ready_mono hr (Ne.symm hji)) h3.1 (h3.2.1 hjk) ?_⟩) h2
      rw [Array.setIfInBounds_comm _ _ hji]
      exact h3.2.2

/-! ### A plan: which comes up when, and whether it is quiet -/
def waitsOn (ops : Array Oper) (k i : Nat) : Bool :=
  match ops[k]? with
  | none => true
  | some o => o.after.any fun e => Region.binds .any e && Nat.beq e.on i

def planOk (ops : Array Oper) (k : Nat) : List (Nat × Bool) → Array Bool → Bool
  | [], listed => (Region.ready .any ops listed).isEmpty
  | (i, true) :: r, listed => Region.free .any ops listed i && (Region.ready .any ops listed).contains i && !(Nat.beq i k) && waitsOn ops k i && planOk ops k r (listed.setIfInBounds i true)
  | (i, false) :: r, listed => (Region.ready .any ops listed == [i]) && planOk ops k r (listed.setIfInBounds i true)

/-- 'Q', but never by a panic. -/
def noP (Q : Exit → Act → World → Prop) : Exit → Act → World → Prop
  | .panic _, _, _ => False
  | x, a, w => Q x a w

def wpSeq (P : Program) (ops : Array Oper) (Q : Exit → Act → World → Prop) (S : World → Prop) (k : Nat) : List (Nat × Bool) → Act → World → Prop
  | [], a, w => Q .normal a w
  | (i, true) :: r, a, w => ∃ o v, ops[i]? = some o ∧ S w ∧ YieldsIf P ops S o v a ∧ wpSeq P ops Q S k r (a.put o.dst v) w
  | (i, false) :: r, a, w => wpOp P ops Q i (fun a' w' => (i ≠ k → S w') ∧ wpSeq P ops Q S k r a' w') a w

theorem wpAnyK_of_seq (hs : Region.noSelect ops = true) : ∀ (r : List (Nat × Bool)) (listed : Array Bool) (a : Act) (w : World), planOk ops k r listed = true → wpSeq P ops (noP Q) S k r a w →
    wpAnyK P .any ops (noP Q) S k r.length listed a w
  | [], listed, a, w, hp, h => ⟨by simpa [planOk] using hp, h⟩
  | (i, true) :: r, listed, a, w, hp, h => by
    obtain ⟨o, v, ho, hS, hy, h⟩ := h
    simp only [planOk, Bool.and_eq_true] at hp
    obtain ⟨⟨⟨⟨hf, hr⟩, hik⟩, hw⟩, hp⟩ := hp
    refine wpAnyK_first ho (Region.noSelect_spec hs) (fun c a w hq => hq) (fun e => by subst e; simp at hik) ?_ r.length listed a w (Region.free_spec ho hf) (by simpa using hr) hy hS (wpAnyK_of_seq hs r _ _ _ hp h)
    intro ok hok
    unfold waitsOn at hw
    rw [hok] at hw
    simp only [Array.any_eq_true] at hw
    obtain ⟨x, hx, hb⟩ := hw
    simp only [Bool.and_eq_true] at hb
    exact ⟨ok.after[x], Array.getElem_mem hx, hb.1, Nat.eq_of_beq_eq_true hb.2⟩
  | (i, false) :: r, listed, a, w, hp, h => by
    simp only [planOk, Bool.and_eq_true, beq_iff_eq] at hp
    obtain ⟨hr, hp⟩ := hp
    refine ⟨fun h0 => absurd (hr ▸ h0) (by simp), fun j hj => ?_⟩
    rw [hr] at hj
    simp only [List.mem_singleton] at hj
    subst hj
    exact wpOp_mono (fun a' w' h' => ⟨h'.1, wpAnyK_of_seq hs r _ _ _ hp h'.2⟩) h

end

/-- The walk of a region that draws its order. -/
def JS (P : Program) (ops : Array Oper) (Q : Exit → Act → World → Prop) (S : World → Prop) (k : Nat) (r : List (Nat × Bool)) (n : Nat) (e : List (Nat × Value)) (w : World) : Prop :=
  ∀ a, Has a n e → wpSeq P ops (noP Q) S k r a w

section
variable {P : Program} {ops : Array Oper} {Q : Exit → Act → World → Prop} {S : World → Prop} {k : Nat} {r : List (Nat × Bool)} {n : Nat} {e : List (Nat × Value)} {w : World}

theorem J.draw {id : Nat} (S : World → Prop) (k : Nat) (r : List (Nat × Bool)) (hm : P.follows .mixedOrders = true) (hs : (Region.noSelect ops && planOk ops k r (Array.replicate ops.size false) && Nat.beq r.length ops.size) = true)
    (h : JS P ops Q S k r n e w.drew) : J P (.region id ops true) Q n e w := by
  intro a ha
  simp only [Bool.and_eq_true] at hs
  obtain ⟨⟨hs, hp⟩, hl⟩ := hs
  have hl := Nat.eq_of_beq_eq_true hl
  have h1 := wpAnyK_of_seq hs r _ a w.drew hp (h a ha)
  rw [hl] at h1
  refine wp_mono (wp_region_any hm (wpAny_of_K _ _ _ _ h1)) ?_
  intro x _ _ hq
  cases x <;> first | exact hq | exact hq.elim

theorem JS.nil (h : ∀ a, Has a n e → Q .normal a w) : JS P ops Q S k [] n e w := fun a ha => h a ha
theorem JS.done {y : Code} (h : J P y Q n e w) : JS P ops (Exit.then (y.wp P Q) Q) S k [] n e w := fun a ha => h a ha

theorem JS.to {y : Code} {Q' : Exit → Act → World → Prop} (hQ : ∀ a w, Code.wp P y Q' a w → Q .normal a w) (h : J P y Q' n e w) : JS P ops Q S k [] n e w := fun a ha => hQ a w (h a ha)

theorem JS.take {i d : Nat} {op : Op} {ty : TypeId} {pos : String} {af : Array Edge} {v : Value} (hi : ops[i]? = some ⟨some d, op, ty, pos, af, none⟩) (hS : S w)
    (hr : ∀ w', S w' → Run P e ⟨some d, op, ty, pos, af, none⟩ w' (.ok (.value v) w')) (h : JS P ops Q S k r n ((d, v) :: e) w) (hd : d < n := by decide) : JS P ops Q S k ((i, true) :: r) n e w :=
  fun _ ha => ⟨_, v, hi, hS, .inl ⟨rfl, fun w' hw' => hr w' hw' _ ha.agr⟩, h _ (ha.put hd)⟩

/-- A guarded one that is wanted. -/
theorem JS.gtake {i d j dj : Nat} {b : Bool} {op : Op} {ty : TypeId} {pos : String} {af : Array Edge} {v : Value} (hi : ops[i]? = some ⟨some d, op, ty, pos, af, some (j, b)⟩) (hj : (ops[j]?).bind (·.dst) = some dj) (hl : look e dj = some (.bool b)) (hS : S w)
    (hr : ∀ w', S w' → Run P e ⟨some d, op, ty, pos, af, some (j, b)⟩ w' (.ok (.value v) w')) (h : JS P ops Q S k r n ((d, v) :: e) w) (hd : d < n := by decide) : JS P ops Q S k ((i, true) :: r) n e w :=
  fun _ ha => ⟨_, v, hi, hS, .inl ⟨by simp [Region.wanted, ha.yielded hj hl], fun w' hw' => hr w' hw' _ ha.agr⟩, h _ (ha.put hd)⟩

/-- A guarded one that is not wanted. -/
theorem JS.gskip {i d j dj : Nat} {b c : Bool} {op : Op} {ty : TypeId} {pos : String} {af : Array Edge} (hi : ops[i]? = some ⟨some d, op, ty, pos, af, some (j, c)⟩) (hj : (ops[j]?).bind (·.dst) = some dj) (hl : look e dj = some (.bool b)) (hS : S w)
    (h : JS P ops Q S k r n ((d, undef) :: e) w) (hbc : b = !c := by rfl) (hd : d < n := by decide) : JS P ops Q S k ((i, true) :: r) n e w :=
  fun _ ha => ⟨_, undef, hi, hS, .inr ⟨by subst hbc; cases c <;> simp [Region.wanted, ha.yielded hj hl], rfl⟩, h _ (ha.put hd)⟩

/-- A loud one. -/
theorem JS.loud {i d : Nat} {op : Op} {ty : TypeId} {pos : String} {af : Array Edge} {v : Value} {w' : World} (hi : ops[i]? = some ⟨some d, op, ty, pos, af, none⟩)
    (hr : Run P e ⟨some d, op, ty, pos, af, none⟩ w (.ok (.value v) w')) (hS : i ≠ k → S w') (h : JS P ops Q S k r n ((d, v) :: e) w') (hd : d < n := by decide) : JS P ops Q S k ((i, false) :: r) n e w := by
  intro a ha
  show wpOp P ops (noP Q) i _ a w
  unfold wpOp
  simp only [hi, Region.wanted, if_true]
  refine .inl ?_
  unfold Oper.wp
  rw [hr _ ha.agr]
  exact ⟨hS, h _ (ha.put hd)⟩

/-- A loud one that yields nothing (a store). -/
theorem JS.eff {i : Nat} {op : Op} {ty : TypeId} {pos : String} {af : Array Edge} {w' : World} (hi : ops[i]? = some ⟨none, op, ty, pos, af, none⟩)
    (hr : Run P e ⟨none, op, ty, pos, af, none⟩ w (.ok .skip w')) (hS : i ≠ k → S w') (h : JS P ops Q S k r n e w') : JS P ops Q S k ((i, false) :: r) n e w := by
  intro a ha
  show wpOp P ops (noP Q) i _ a w
  unfold wpOp
  simp only [hi, Region.wanted, if_true]
  refine .inl ?_
  unfold Oper.wp
  rw [hr _ ha.agr]
  exact ⟨hS, h _ ha⟩

/-- A call of a Go function. -/
theorem JS.call {i d f : Nat} {fn : Func} {c : Code} {args : Array Operand} {tys : Array TypeId} {ty : TypeId} {pos : String} {af : Array Edge} {vs : List Value}
    (hi : ops[i]? = some ⟨some d, .call ⟨.value (.func f), args, tys⟩, ty, pos, af, none⟩)
    (hargs : evs e args.toList = some vs) (hf : P.funcs[f]? = some fn) (hb : fn.body = some c) (hnm : (fn.name == "runtime.NumGoroutine") = false)
    (hc : Calls P f vs.toArray w fun x w' => ∃ v, x = .returned v ∧ (i ≠ k → S w') ∧ JS P ops Q S k r n ((d, v) :: e) w') (hd : d < n := by decide) :
    JS P ops Q S k ((i, false) :: r) n e w := by
  intro a ha
  show wpOp P ops (noP Q) i _ a w
  unfold wpOp
  simp only [hi, Region.wanted, if_true]
  refine .inl ?_
  unfold Oper.wp
  have h1 : args.map a.eval = vs.toArray := by
    have := ha.agr.evs hargs
    rw [← this]
    apply Array.ext'
    simp
  have hx : (execOp a.eval ⟨some d, .call ⟨.value (.func f), args, tys⟩, ty, pos, af, none⟩).run P w = .ok (.enter f vs.toArray) w := by
    have hnm' : ¬ fn.name = "runtime.NumGoroutine" := by simpa using hnm
    simp [execOp, resolve, Deferred.ofValue, Act.eval, invoke, callFunc, h1, hf, hb, hnm']
  rw [hx]
  refine Calls.mono hc fun x w' hx => ?_
  obtain ⟨v, rfl, hS, h⟩ := hx
  exact ⟨hS, h _ (ha.put hd)⟩

end

/-! ### append -/
section
variable {P : Program} {e : List (Nat × Value)} {w : World} {dst : Option Nat} {ty : TypeId} {pos : String} {af : Array Edge} {g : Option (Nat × Bool)}

theorem append_ex {T E size bytes base n m c : Nat} {v : Value} {xs news : List Value} {ad : Addr} (hE : Elt P T E size bytes) (hown : w.ownsRow base E size v n xs)
    (hl : news.length = m * size) (hnews : ∀ j u, news[j]? = some u → w.cell? (ad.add j) = some u) (h1 : ∀ u ∈ news, u.oneCell' = true) (hm : 0 < m) (hnm : n + m ≤ 1000000000) (hby : bytes ≤ 100000) (hbase : base ≤ w.heap.size) :
    ∃ b cap w', (∀ ty, (Builtin.append_ #[T, T] ty #[v, .slice (some ad) m c]).run P w = .ok (.slice (some ⟨b, 0, none⟩) (n + m) cap) w') ∧
      w'.ownsRow base E size (.slice (some ⟨b, 0, none⟩) (n + m) cap) (n + m) (xs ++ news) ∧ w.grownBy w' v.ownBlock ∧ (v.ownBlock = some b ∨ b = w.heap.size) ∧ b < w'.heap.size := by
  obtain ⟨i, z, hT, hi, hz, hs, hb, hzs, hp⟩ := hE.info
  have hbig : (n + m) * bytes ≤ 140737488355328 := by
    have : (n + m) * bytes ≤ 1000000000 * 100000 := Nat.mul_le_mul hnm hby
    omega
  obtain ⟨b, cap, w', hr, h2⟩ := run_append_lies (P := P) w T 0 base E i z size bytes hT hi hz hs hb hzs hp v n xs hown ad m c news hl hnews h1 hm (by unfold maxLen; omega) hbig hbase w.heap.size rfl
  exact ⟨b, cap, w', fun _ => hr, h2⟩

theorem Run.append {x y : Operand} {tys : Array TypeId} {v u r : Value} {w' : World} (hx : ev e x = some v) (hy : ev e y = some u) (h : ∀ ty, (Builtin.append_ tys ty #[v, u]).run P w = .ok r w') :
    Run P e ⟨dst, .call ⟨.builtin .append, #[x, y], tys⟩, ty, pos, af, g⟩ w (.ok (.value r) w') := by
  intro ρ hρ
  simp [execOp, resolve, invoke, builtin, hρ _ _ hx, hρ _ _ hy, h]

/-- A literal of one element of one cell. -/
theorem buildSlice1 {T E bytes : Nat} {v : Value} (hE : Elt P T E 1 bytes) (h1 : v.oneCell' = true) :
    (Instr.buildSlice T 1 #[(0, v)]).run P w = .ok (.slice (some ⟨w.heap.size, 0, none⟩) 1 1) (w.alloc (.cells [v].toArray E)) := by
  obtain ⟨i, z, hT, hi, hz, hs, hb, hzs, hp⟩ := hE.info
  have hr : Array.range 1 = #[0] := by rfl
  simp [Instr.buildSlice, run_underlying hT, sizeOf, typeInfo, hi, hs, zeroValue, hz, hr, Instr.fill, one_cells h1, newRow]

end
end Go.Fw
