/-
  pairEpsilons: what one call of slot and the append behind it do.
-/
import Derived.Test.YbulkpguLast
import Derived.Test.YbulkpguPs
namespace Go.Fw
open Go.RowKit
/-- A guarded call, wanted, in a region whose order is drawn. -/
theorem JS.gcall {P : Program} {ops : Array Oper} {Q : Exit → Act → World → Prop} {S : World → Prop} {k : Nat} {r : List (Nat × Bool)} {n : Nat} {e : List (Nat × Value)} {w : World} {i d f j dj : Nat} {b : Bool} {fn : Func} {c : Code} {args : Array Operand} {tys : Array TypeId} {ty : TypeId} {pos : String} {af : Array Edge} {vs : List Value}
    (hi : ops[i]? = some ⟨some d, .call ⟨.value (.func f), args, tys⟩, ty, pos, af, some (j, b)⟩) (hj : (ops[j]?).bind (·.dst) = some dj) (hl : Go.Fw.look e dj = some (.bool b))
    (hargs : evs e args.toList = some vs) (hf : P.funcs[f]? = some fn) (hb : fn.body = some c) (hnm : (fn.name == "runtime.NumGoroutine") = false)
    (hc : Calls P f vs.toArray w fun x w' => ∃ v, x = .returned v ∧ (i ≠ k → S w') ∧ JS P ops Q S k r n ((d, v) :: e) w') (hd : d < n := by decide) :
    JS P ops Q S k ((i, false) :: r) n e w := by
  intro a ha
  show wpOp P ops (noP Q) i _ a w
  unfold wpOp
  have hw : Region.wanted ⟨some d, .call ⟨.value (.func f), args, tys⟩, ty, pos, af, some (j, b)⟩ (yielded ops a.tmps) = true := by simp [Region.wanted, ha.yielded hj hl]
  simp only [hi, hw, if_true]
  refine .inl ?_
  unfold Oper.wp
  have h1 : args.map a.eval = vs.toArray := by
    have := ha.agr.evs hargs
    rw [← this]
    apply Array.ext'
    simp
  have hx : (execOp a.eval ⟨some d, .call ⟨.value (.func f), args, tys⟩, ty, pos, af, some (j, b)⟩).run P w = .ok (.enter f vs.toArray) w := by
    have hnm' : ¬ fn.name = "runtime.NumGoroutine" := by simpa using hnm
    simp [execOp, resolve, Deferred.ofValue, Act.eval, invoke, callFunc, h1, hf, hb, hnm']
  rw [hx]
  refine Calls.mono hc fun x w' hx => ?_
  obtain ⟨v, rfl, hS, h⟩ := hx
  exact ⟨hS, h _ (ha.put hd)⟩

/-- A slice that lies in a named block, wherever in it. -/
def RdH (h : Hn) (n : Nat × Nat) (v : Value) (m : Nat) (ys : List Value) : Prop :=
  ∃ a c, v = .slice a m c ∧ (0 < m → ∃ g o cur, a = some ⟨g, o, none⟩ ∧ h n = some (g, cellsO cur 21) ∧ ∀ j u, ys[j]? = some u → cur[o + j]? = some u)
theorem RdH.keep {h h' : Hn} {n : Nat × Nat} {v : Value} {m : Nat} {ys : List Value} (hr : RdH h n v m ys) (he : h' n = h n) : RdH h' n v m ys := by unfold RdH at *; rw [he]; exact hr
theorem RdH.rd {w0 w : World} {h : Hn} {n : Nat × Nat} {v : Value} {m : Nat} {ys : List Value} (hr : RdH h n v m ys) (hp : Hp w0 w h) : Rd w v m ys := by
  obtain ⟨a, c, rfl, hr⟩ := hr
  refine ⟨a, c, rfl, fun hm => ?_⟩
  obtain ⟨g, o, cur, rfl, h1, h2⟩ := hr hm
  exact ⟨g, o, rfl, fun j u hj => hp.cell h1 (h2 j u hj)⟩
end Go.Fw
namespace Go.Proofs.Ybulkpgu
open Go.Fw Go.RowKit
attribute [local simp] Go.Fw.stl_size Go.Fw.sto_size

/-- The state of the building: st pairs built so far, the new targets in epsv. -/
structure PE (w0 w : World) (h : Hn) (mb va vb : Nat) (stsA : List Sv) (rv av ev sv : Value) (st : Ps) (epsv : Value) : Prop where
  hp : Hp w0 w h
  le : LsE h 1 va (stsA ++ List.replicate (st.next - stsA.length) sv0)
  mg : Mg h mb va vb st.l rv av ev sv
  sl : Sl h (15, 0) 21 1 epsv st.exp.length (i32s st.exp)
  nx : stsA.length ≤ st.next

def FrN (h h' : Hn) : Prop := ∀ n : Nat × Nat, (3 ≤ n.1 ∧ n.1 ≤ 6) ∨ (13 ≤ n.1 ∧ n.1 ≤ 97 ∧ n.1 ≠ 15) → h' n = h n
theorem FrN.refl (h : Hn) : FrN h h := fun _ _ => rfl
theorem FrN.trans {h h' h'' : Hn} (a : FrN h h') (b : FrN h' h'') : FrN h h'' := fun n hn => (b n hn).trans (a n hn)

theorem slotP {w0 w : World} {h : Hn} {mb va vb : Nat} {stsA : List Sv} {rv av ev sv : Value} {st : Ps} {epsv : Value} (hpe : PE w0 w h mb va vb stsA rv av ev sv st epsv) (x y : Int) (take : Bool) (htx : take = true → x ≠ -1) (hy : 0 ≤ y)
    (hnew : (x, y) ∉ st.l.map (·.1)) (hb1 : st.next ≤ 800000) (hb2 : st.l.length ≤ 800000) (hb3 : st.exp.length ≤ 800000)
    (R : Ending → World → Prop)
    (hR : ∀ w1 z, (∃ b cap w2 h2, (∀ ty, (Builtin.append_ #[22, 22] ty #[epsv, .slice (some ⟨w1.heap.size, 0, none⟩) 1 1]).run Yba.prog (w1.alloc (.cells [.int .i32 z].toArray 21)) = .ok (.slice (some ⟨b, 0, none⟩) (st.exp.length + 1) cap) w2) ∧
      PE w0 w2 h2 mb va vb stsA rv av ev sv (pst take st (x, y)) (.slice (some ⟨b, 0, none⟩) (st.exp.length + 1) cap) ∧ FrN h h2) → R (.returned (.int .i32 z)) w1) :
    Calls Yba.prog 46 #[ptr mb, pv x y, .bool take] w R := by
  have hnx := hpe.nx
  have hlen : (stsA ++ List.replicate (st.next - stsA.length) sv0).length = st.next := by simp; omega
  have hnew' : ∀ e ∈ st.l, e.1 ≠ (x, y) := fun e he hh => hnew (List.mem_map.2 ⟨e, he, hh⟩)
  have key : ∀ (w1 : World) (h1 : Hn) (z : Int) (sts2 : List Sv), Hp w0 w1 h1 → LsE h1 1 va sts2 → Mg h1 mb va vb (st.l ++ [((x, y), z)]) rv av ev sv → FrS h h1 →
      pst take st (x, y) = ⟨(pst take st (x, y)).next, st.exp ++ [z], st.l ++ [((x, y), z)]⟩ → sts2 = stsA ++ List.replicate ((pst take st (x, y)).next - stsA.length) sv0 → R (.returned (.int .i32 z)) w1 := fun w1 h1 z sts2 hp1 hle1 hm1 hf1 hps hsts => by
    refine hR w1 z ?_
    have hp2 := hp1.alloc (.cells [.int .i32 z].toArray 21)
    have hnew2 : Blk (w1.alloc (.cells [.int .i32 z].toArray 21)) w1.heap.size 21 [.int .i32 z] := Blk.new _ _ _
    have hs1 : Sl h1 (15, 0) 21 1 epsv st.exp.length (i32s st.exp) := hpe.sl.keep (hf1 _ (by simp))
    obtain ⟨b, cap, w2, cur, hrun, hp3, hs3⟩ := Hp.append (P := Yba.prog) (T := 22) (ad := ⟨w1.heap.size, 0, none⟩) (m := 1) (c := 1) (news := [.int .i32 z]) hp2 el22 hs1 (by simp)
      (fun q u hq => by rw [addr_add, Nat.zero_add]; exact hnew2.cell hq) (by simp [Value.oneCell']) (by omega) (by omega) (by omega)
    refine ⟨b, cap, w2, _, hrun, ⟨hp3, ?_, ?_, ?_, ?_⟩, ?_⟩
    · rw [← hsts]
      exact hle1.keep fun n hn => hup_ne (fun e => by subst e; simp at hn)
    · rw [hps]
      exact hm1.keep fun n hn => hup_ne (fun e => by subst e; simp at hn)
    · rw [hps]
      have e3 : i32s (st.exp ++ [z]) = i32s st.exp ++ [.int .i32 z] := by simp
      simp only
      rw [e3, List.length_append, List.length_singleton]
      exact hs3
    · have := (pst_next take st (x, y)).1
      omega
    · intro n hn
      rw [hup_ne (fun e => by subst e; simp at hn)]
      exact hf1 n (by omega)
  refine slot_calls x y take hpe.hp hpe.le hpe.mg (by rw [hlen]; omega) (by omega) hy hnew' R ?_ ?_
  · intro hc w1 h1 hp1 hle1 hm1 hf1
    have ht : take = false := by
      rcases hc with hc | hc
      · exact hc
      · cases take with
        | false => rfl
        | true => exact absurd hc (htx rfl)
    rw [hlen] at hm1 ⊢
    subst ht
    refine key w1 h1 (st.next : Int) _ hp1 hle1 hm1 hf1 (by simp [pst]) ?_
    have e : (pst false st (x, y)).next - stsA.length = (st.next - stsA.length) + 1 := by simp [pst]; omega
    rw [e, List.append_assoc, List.replicate_succ']
  · intro hc _ w1 h1 hp1 hle1 hm1 hf1
    subst hc
    exact key w1 h1 x _ hp1 hle1 hm1 hf1 (by simp [pst]) (by simp [pst])
end Go.Proofs.Ybulkpgu
