/-
  The map of pairs; pairs compared.
-/
import Derived.Test.YbulkpguOps
import Derived.Laws.StructEq
import Derived.WideKeyRuns
namespace Go.Proofs.Ybulkpgu
open Go.Fw Go.RowKit
attribute [local simp] Go.Fw.stl_size Go.Fw.sto_size

abbrev pv (x y : Int) : Value := .agg #[.int .i32 x, .int .i32 y]

theorem part0 {w : World} {a b : Int} : (part 21 #[.int .i32 a, .int .i32 b] 0).run Yba.prog w = .ok (.int .i32 a) w := by kernel_rfl
theorem part1 {w : World} {a b : Int} : (part 21 #[.int .i32 a, .int .i32 b] 1).run Yba.prog w = .ok (.int .i32 b) w := by kernel_rfl
theorem fields54 : ∃ f g : Field, (Yba.prog.fieldsOf 54).toList = [f, g] ∧ f.type = 21 ∧ g.type = 21 ∧ f.offset = 0 ∧ g.offset = 1 ∧ (f.name ≠ "_") ∧ (g.name ≠ "_") :=
  ⟨_, _, (by kernel_rfl : (Yba.prog.fieldsOf 54).toList = [(Yba.prog.fieldsOf 54)[0]!, (Yba.prog.fieldsOf 54)[1]!]), by kernel_rfl, by kernel_rfl, by kernel_rfl, by kernel_rfl, by decide +kernel, by decide +kernel⟩
theorem equalIn54 {w : World} {a b c d : Int} : (Op.equalIn 10000 54 (pv a b) (pv c d)).run Yba.prog w = .ok (a == c && b == d) w := by
  obtain ⟨f, g, hfg, h1, h2, h3, h4, h5, h6⟩ := fields54
  rw [run_equalIn_struct w 9999 54 _ _ (by kernel_rfl) (by kernel_rfl), hfg]
  have e1 := run_equalIn_int (P := Yba.prog) w 9998 21 .i32 .i32 a c Yba.underlying21
  have e2 := run_equalIn_int (P := Yba.prog) w 9998 21 .i32 .i32 b d Yba.underlying21
  simp only [Op.eqFields, Sem.run_bind, Sem.run_ite, if_pos h5, if_pos h6, h1, h2, h3, h4, part0, part1, Result.andThen_ok, e1, e2]
  cases a == c <;> cases b == d <;> simp
theorem equal54 {w : World} {a b c d : Int} : (Op.equal 54 (pv a b) (pv c d)).run Yba.prog w = .ok (a == c && b == d) w := equalIn54
theorem check54 {w : World} {e : Bool} {a b : Int} : (Instr.checkKey e 10000 54 (pv a b)).run Yba.prog w = .ok () w := by
  cases e <;> kernel_rfl

/-- What the map holds: the pairs in the order in which they came, each with its place. -/
abbrev ens (l : List ((Int × Int) × Int)) : Array MapEntry := (l.zipIdx.map fun e => (⟨pv e.1.1.1 e.1.1.2, .int .i32 e.1.2, e.2⟩ : MapEntry)).toArray
abbrev mapO (l : List ((Int × Int) × Int)) : Obj := .map (ens l) l.length

theorem asking54 {w : World} (x y : Int) : ∀ (l : List (((Int × Int) × Int) × Nat)) (i : Nat),
    (∀ e ∈ l, e.1.1 ≠ (x, y)) → (Instr.findAsking 54 (pv x y) (l.map fun e => (⟨pv e.1.1.1 e.1.1.2, .int .i32 e.1.2, e.2⟩ : MapEntry)) i).run Yba.prog w = .ok none w
  | [], i, _ => by simp [Instr.findAsking]
  | e :: l, i, h => by
    have h0 := h e (by simp)
    have hb : (x == e.1.1.1 && y == e.1.1.2) = false := by
      rw [Bool.eq_false_iff]
      intro hh
      simp at hh
      exact h0 (by rw [hh.1, hh.2])
    simp only [List.map_cons, Instr.findAsking, Sem.run_bind, equal54, Result.andThen_ok, hb, Bool.false_eq_true, if_false]
    exact asking54 x y l (i + 1) (fun e' he' => h e' (List.mem_cons_of_mem _ he'))

theorem found54 {w : World} (x y v : Int) : ∀ (l : List (((Int × Int) × Int) × Nat)) (i : Nat),
    (∃ e ∈ l, e.1 = ((x, y), v)) → (∀ e ∈ l, e.1.1 = (x, y) → e.1.2 = v) → ∃ j, (Instr.findAsking 54 (pv x y) (l.map fun e => (⟨pv e.1.1.1 e.1.1.2, .int .i32 e.1.2, e.2⟩ : MapEntry)) i).run Yba.prog w = .ok (some (j, .int .i32 v)) w
  | [], i, h, _ => by obtain ⟨e, he, _⟩ := h; simp at he
  | e :: l, i, h, hu => by
    by_cases hx : e.1.1 = (x, y)
    · have hv := hu e (by simp) hx
      refine ⟨i, ?_⟩
      have h1 : e.1.1.1 = x := by rw [hx]
      have h2 : e.1.1.2 = y := by rw [hx]
      simp only [List.map_cons, Instr.findAsking, Sem.run_bind, equal54, Result.andThen_ok, h1, h2, hv, beq_self_eq_true, Bool.and_self, if_true, Sem.run_pure]
    · have hb : (x == e.1.1.1 && y == e.1.1.2) = false := by
        rw [Bool.eq_false_iff]
        intro hh
        simp at hh
        exact hx (by rw [hh.1, hh.2])
      obtain ⟨j, hj⟩ := found54 x y v l (i + 1) (by
        obtain ⟨e', he', hee⟩ := h
        rcases List.mem_cons.1 he' with rfl | he'
        · exact absurd (by rw [hee]) hx
        · exact ⟨e', he', hee⟩) (fun e' he' => hu e' (List.mem_cons_of_mem _ he'))
      refine ⟨j, ?_⟩
      simp only [List.map_cons, Instr.findAsking, Sem.run_bind, equal54, Result.andThen_ok, hb, Bool.false_eq_true, if_false]
      exact hj

theorem find_none {w : World} {x y : Int} {l : List ((Int × Int) × Int)} (h : ∀ e ∈ l, e.1 ≠ (x, y)) : (Instr.findKey 54 (pv x y) (ens l).toList).run Yba.prog w = .ok none w := by
  rw [run_findKey_eq (P := Yba.prog) w (k := 54) (by rw [Yba.underlying54]) (pv x y) (ens l).toList]
  exact asking54 x y l.zipIdx 0 (fun e he => h e.1 (List.fst_mem_of_mem_zipIdx he))

theorem find_some {w : World} {x y v : Int} {l : List ((Int × Int) × Int)} (h : ((x, y), v) ∈ l) (hu : ∀ e ∈ l, e.1 = (x, y) → e.2 = v) : ∃ j, (Instr.findKey 54 (pv x y) (ens l).toList).run Yba.prog w = .ok (some (j, .int .i32 v)) w := by
  rw [run_findKey_eq (P := Yba.prog) w (k := 54) (by rw [Yba.underlying54]) (pv x y) (ens l).toList]
  refine found54 x y v l.zipIdx 0 ?_ (fun e he => hu e.1 (List.fst_mem_of_mem_zipIdx he))
  obtain ⟨i, hi⟩ := List.getElem?_of_mem h
  exact ⟨(((x, y), v), i), by rw [List.mem_zipIdx_iff_getElem?]; exact hi, rfl⟩

section
variable {e : List (Nat × Value)} {w : World} {dst : Option Nat} {ty : TypeId} {pos : String} {af : Array Edge} {g : Option (Nat × Bool)}

theorem Run.lookNone {X Y : Operand} {r : Nat} {x y : Int} {l : List ((Int × Int) × Int)} (hx : ev e X = some (.map (some r))) (hy : ev e Y = some (pv x y)) (hr : w.heap[r]? = some (mapO l)) (h : ∀ e ∈ l, e.1 ≠ (x, y)) :
    Run Yba.prog e ⟨dst, .lookup 57 X Y true, ty, pos, af, g⟩ w (.ok (.value (.tuple #[.int .i32 0, .bool false])) w) := by
  intro ρ hρ
  have hg : (getObj r).run Yba.prog w = .ok (mapO l) w := by simp [getObj, Sem.run, hr]
  have hz : (zeroValue 21).run Yba.prog w = .ok (.int .i32 0) w := by kernel_rfl
  simp only [execOp, hρ _ _ hx, hρ _ _ hy, Instr.lookup, Sem.run_bind, run_underlying Yba.underlying57, Result.andThen_ok, hg, Sem.run_pure, check54, find_none h, hz, if_true]

theorem Run.lookSome {X Y : Operand} {r : Nat} {x y v : Int} {l : List ((Int × Int) × Int)} (hx : ev e X = some (.map (some r))) (hy : ev e Y = some (pv x y)) (hr : w.heap[r]? = some (mapO l)) (h : ((x, y), v) ∈ l) (hu : ∀ e ∈ l, e.1 = (x, y) → e.2 = v) :
    Run Yba.prog e ⟨dst, .lookup 57 X Y true, ty, pos, af, g⟩ w (.ok (.value (.tuple #[.int .i32 v, .bool true])) w) := by
  intro ρ hρ
  have hg : (getObj r).run Yba.prog w = .ok (mapO l) w := by simp [getObj, Sem.run, hr]
  obtain ⟨j, hj⟩ := find_some (w := w) h hu
  simp only [execOp, hρ _ _ hx, hρ _ _ hy, Instr.lookup, Sem.run_bind, run_underlying Yba.underlying57, Result.andThen_ok, hg, Sem.run_pure, check54, hj, if_true]

theorem Run.mapPut {X Y Z : Operand} {r : Nat} {x y v : Int} {l : List ((Int × Int) × Int)} (hx : ev e X = some (.map (some r))) (hy : ev e Y = some (pv x y)) (hz : ev e Z = some (.int .i32 v)) (hr : w.heap[r]? = some (mapO l)) (h : ∀ e ∈ l, e.1 ≠ (x, y)) :
    Run Yba.prog e ⟨dst, .mapUpdate 57 X Y Z, ty, pos, af, g⟩ w (.ok .skip (Go.Fw.sto w r (mapO (l ++ [((x, y), v)])))) := by
  have h1 := Run.mapNew (P := Yba.prog) (dst := dst) (ty := ty) (pos := pos) (af := af) (g := g) Yba.underlying57 hx hy hz hr check54 (find_none h)
  have h2 : mapO (l ++ [((x, y), v)]) = .map ((ens l).push ⟨pv x y, .int .i32 v, l.length⟩) (l.length + 1) := by
    simp [mapO, ens, List.zipIdx_append]
  rw [h2]
  exact h1
end
end Go.Proofs.Ybulkpgu
