/-
  What one operation does, over whatever program: for the frame of our own (YbulkpguFw).
-/
import Derived.Test.YbulkpguFw
import Derived.Deep.AppendLies
import Derived.Laws.MakeOwn
import Derived.Laws.CopyOwn
namespace Go.Fw
open Go.RowKit

/-! ### Memory: a block known whole -/
def Blk (w : World) (b : Nat) (E : TypeId) (l : List Value) : Prop := w.heap[b]? = some (.cells l.toArray E (0, 0))

theorem Blk.cell {w : World} {b : Nat} {E : TypeId} {l : List Value} (h : Blk w b E l) {i : Nat} {v : Value} (hi : l[i]? = some v) : w.cell? ⟨b, i, none⟩ = some v := by
  rw [cell_of_row w b i l.toArray E (0, 0) h]
  simpa using hi
theorem Blk.lt {w : World} {b : Nat} {E : TypeId} {l : List Value} (h : Blk w b E l) : b < w.heap.size := (Array.getElem?_eq_some_iff.1 h).1
theorem Blk.eq {w : World} {b : Nat} {E E' : TypeId} {l l' : List Value} (h : Blk w b E l) (h' : Blk w b E' l') : l = l' := by
  unfold Blk at h h'
  rw [h] at h'
  simp at h'
  exact h'.1

def stl (w : World) (b : Nat) (l : List Value) : World := w.setRow b l.toArray

theorem Blk.stl {w : World} {b : Nat} {E : TypeId} {l : List Value} (h : Blk w b E l) (l' : List Value) : Blk (stl w b l') b E l' := setRow_heap w b l.toArray l'.toArray E (0, 0) h
theorem stl_other {w : World} {b k : Nat} {l : List Value} (h : k ≠ b) : (stl w b l).heap[k]? = w.heap[k]? := setRow_other w b k _ h
theorem Blk.stl_ne {w : World} {b k : Nat} {E : TypeId} {l l' : List Value} (h : Blk w k E l) (hk : k ≠ b) : Blk (Fw.stl w b l') k E l := by
  unfold Blk; rw [stl_other hk]; exact h
theorem stl_size {w : World} {b : Nat} {l : List Value} : (stl w b l).heap.size = w.heap.size := size_setRow w b _
attribute [local simp] stl_size
theorem Blk.alloc {w : World} {b : Nat} {E : TypeId} {l : List Value} (h : Blk w b E l) (o : Obj) : Blk (w.alloc o) b E l := by
  unfold Blk; rw [Below.heap_alloc w o b h.lt]; exact h
theorem Blk.new (w : World) (E : TypeId) (l : List Value) : Blk (w.alloc (.cells l.toArray E)) w.heap.size E l := heap_alloc_new w _
theorem Blk.drew {w : World} {b : Nat} {E : TypeId} {l : List Value} (h : Blk w b E l) : Blk w.drew b E l := h
theorem Blk.grown {w w' : World} {row : Option Nat} {b : Nat} {E : TypeId} {l : List Value} (h : Blk w b E l) (hg : w.grownBy w' row) (hb : some b ≠ row) : Blk w' b E l := by
  unfold Blk; rw [hg.block b h.lt hb]; exact h
theorem Blk.of_eq {w w' : World} {b : Nat} {E : TypeId} {l : List Value} (h : Blk w b E l) (hg : w'.heap[b]? = w.heap[b]?) : Blk w' b E l := by
  unfold Blk; rw [hg]; exact h

theorem _root_.Go.RowKit.Below.stl {B : Nat} {w w' : World} (h : Below B w w') {b : Nat} (hb : B ≤ b) (l : List Value) : Below B w (Fw.stl w' b l) := below_setRow h hb _
theorem _root_.Go.RowKit.Below.cell1 {w w' : World} (h : Below w.heap.size w w') {a : Addr} {v : Value} (hc : w.cell? a = some v) : w'.cell? a = some v := by
  rw [h.cell (World.block_lt_of_cell? w a hc)]; exact hc

/-! ### What is known of a type -/
def aggD : TypeDesc → Bool
  | .struct _ => true
  | .array _ _ => true
  | _ => false

structure Ty1 (P : Program) (T : TypeId) : Prop where
  under : ∃ d, P.underlying T = some d ∧ aggD d = false
  cells : P.cellsOf T = 1
structure TyA (P : Program) (T : TypeId) (k : Nat) : Prop where
  under : ∃ d, P.underlying T = some d ∧ aggD d = true
  cells : P.cellsOf T = k
  pos : 0 < k

section
variable {P : Program} {e : List (Nat × Value)} {w : World} {dst : Option Nat} {ty : TypeId} {pos : String} {af : Array Edge} {g : Option (Nat × Bool)}

theorem run_sizeOf {T k : Nat} (h : P.cellsOf T = k) (hk : 0 < k) : (sizeOf T).run P w = .ok k w := by
  unfold Program.cellsOf at h
  cases hi : P.info? T with
  | none => simp [hi] at h; omega
  | some i => simp [hi] at h; simp [sizeOf, typeInfo, hi, h]
theorem run_isAgg {T : TypeId} {d : TypeDesc} (h : P.underlying T = some d) : (isAgg T).run P w = .ok (aggD d) w := by
  cases d <;> simp [isAgg, run_underlying h, aggD]

theorem addr_add (b o n : Nat) : (⟨b, o, none⟩ : Addr).add n = ⟨b, o + n, none⟩ := by unfold Addr.add; split <;> simp_all

theorem one_cells {v : Value} (h : v.oneCell' = true) : v.cells = #[v] := by cases v <;> first | rfl | (simp [Value.oneCell'] at h)

/-! ### Operations that touch no memory -/
theorem Run.move {x : Operand} {v : Value} (h : ev e x = some v) : Run P e ⟨dst, .move x, ty, pos, af, g⟩ w (.ok (.value v) w) := by
  intro ρ hρ; simp [execOp, hρ x v h]
theorem Run.assign {x : Operand} {v : Value} (h : ev e x = some v) : Run P e ⟨dst, .assign x, ty, pos, af, g⟩ w (.ok (.value v) w) := by
  intro ρ hρ; simp [execOp, hρ x v h]
theorem Run.pick {c x y : Operand} {b : Bool} {v : Value} (hc : ev e c = some (.bool b)) (h : ev e (if b then x else y) = some v) : Run P e ⟨dst, .pick c x y, ty, pos, af, g⟩ w (.ok (.value v) w) := by
  intro ρ hρ
  have := hρ _ _ h
  cases b <;> simp_all [execOp, hρ _ _ hc, asBool]
theorem Run.pickT {c x y : Operand} {v : Value} (hc : ev e c = some (.bool true)) (h : ev e x = some v) : Run P e ⟨dst, .pick c x y, ty, pos, af, g⟩ w (.ok (.value v) w) := Run.pick hc h
theorem Run.pickF {c x y : Operand} {v : Value} (hc : ev e c = some (.bool false)) (h : ev e y = some v) : Run P e ⟨dst, .pick c x y, ty, pos, af, g⟩ w (.ok (.value v) w) := Run.pick hc h
theorem Run.lss {x y : Operand} {T U : TypeId} {k : IntKind} {a b : Int} (hx : ev e x = some (.int k a)) (hy : ev e y = some (.int k b)) : Run P e ⟨dst, .binOp .lss T x y U, ty, pos, af, g⟩ w (.ok (.value (.bool (decide (a < b)))) w) := by
  intro ρ hρ; simp [execOp, hρ _ _ hx, hρ _ _ hy, eqGuard, binOp, Op.intCmp]
theorem Run.leq {x y : Operand} {T U : TypeId} {k : IntKind} {a b : Int} (hx : ev e x = some (.int k a)) (hy : ev e y = some (.int k b)) : Run P e ⟨dst, .binOp .leq T x y U, ty, pos, af, g⟩ w (.ok (.value (.bool (decide (a ≤ b)))) w) := by
  intro ρ hρ; simp [execOp, hρ _ _ hx, hρ _ _ hy, eqGuard, binOp, Op.intCmp]
theorem Run.gtr {x y : Operand} {T U : TypeId} {k : IntKind} {a b : Int} (hx : ev e x = some (.int k a)) (hy : ev e y = some (.int k b)) : Run P e ⟨dst, .binOp .gtr T x y U, ty, pos, af, g⟩ w (.ok (.value (.bool (decide (b < a)))) w) := by
  intro ρ hρ; simp [execOp, hρ _ _ hx, hρ _ _ hy, eqGuard, binOp, Op.intCmp]
theorem Run.geq {x y : Operand} {T U : TypeId} {k : IntKind} {a b : Int} (hx : ev e x = some (.int k a)) (hy : ev e y = some (.int k b)) : Run P e ⟨dst, .binOp .geq T x y U, ty, pos, af, g⟩ w (.ok (.value (.bool (decide (b ≤ a)))) w) := by
  intro ρ hρ; simp [execOp, hρ _ _ hx, hρ _ _ hy, eqGuard, binOp, Op.intCmp]
theorem Run.eql {x y : Operand} {T U : TypeId} {k : IntKind} {a b : Int} (hx : ev e x = some (.int k a)) (hy : ev e y = some (.int k b)) : Run P e ⟨dst, .binOp .eql T x y U, ty, pos, af, g⟩ w (.ok (.value (.bool (decide (a = b)))) w) := by
  intro ρ hρ; simp [execOp, hρ _ _ hx, hρ _ _ hy, eqGuard, binOp, Op.intCmp]; rfl
theorem Run.neq {x y : Operand} {T U : TypeId} {k : IntKind} {a b : Int} (hx : ev e x = some (.int k a)) (hy : ev e y = some (.int k b)) : Run P e ⟨dst, .binOp .neq T x y U, ty, pos, af, g⟩ w (.ok (.value (.bool (decide (a ≠ b)))) w) := by
  intro ρ hρ
  simp [execOp, hρ _ _ hx, hρ _ _ hy, eqGuard, binOp, Op.intCmp]
  by_cases h : a = b <;> simp [h]
theorem Run.addW {x y : Operand} {T U : TypeId} {k : IntKind} {a b : Int} (hx : ev e x = some (.int k a)) (hy : ev e y = some (.int k b)) : Run P e ⟨dst, .binOp .add T x y U, ty, pos, af, g⟩ w (.ok (.value (.int k (k.wrap (a + b)))) w) := by
  intro ρ hρ; simp [execOp, hρ _ _ hx, hρ _ _ hy, eqGuard, binOp, Op.intArith]
theorem Run.subW {x y : Operand} {T U : TypeId} {k : IntKind} {a b : Int} (hx : ev e x = some (.int k a)) (hy : ev e y = some (.int k b)) : Run P e ⟨dst, .binOp .sub T x y U, ty, pos, af, g⟩ w (.ok (.value (.int k (k.wrap (a - b)))) w) := by
  intro ρ hρ; simp [execOp, hρ _ _ hx, hρ _ _ hy, eqGuard, binOp, Op.intArith]
theorem wrap_id {a : Int} (h0 : -9223372036854775808 ≤ a) (h1 : a ≤ 9223372036854775807) : IntKind.i64.wrap a = a := by
  rw [IntKind.wrap_i64]; omega
theorem wrap_id32 {a : Int} (h0 : -2147483648 ≤ a) (h1 : a ≤ 2147483647) : IntKind.i32.wrap a = a := by
  simp only [IntKind.wrap, IntKind.signed, IntKind.bits, Bool.true_and]
  by_cases h : a % 2 ^ 32 ≥ 2 ^ (32 - 1)
  · rw [if_pos (by simpa using h)]; omega
  · rw [if_neg (by simpa using h)]; omega
theorem wrap_u8 {a : Int} (h0 : 0 ≤ a) (h1 : a ≤ 255) : IntKind.u8.wrap a = a := by
  simp only [IntKind.wrap, IntKind.signed, IntKind.bits, Bool.false_and, Bool.false_eq_true, if_false]; omega
/-- a + b, in int's range; 'c': the sum as you want it written. -/
theorem Run.add {x y : Operand} {T U : TypeId} {a b c : Int} (hx : ev e x = some (.int .i64 a)) (hy : ev e y = some (.int .i64 b)) (hc : a + b = c) (h0 : -9223372036854775808 ≤ c) (h1 : c ≤ 9223372036854775807) :
    Run P e ⟨dst, .binOp .add T x y U, ty, pos, af, g⟩ w (.ok (.value (.int .i64 c)) w) := by
  have := Run.addW (P := P) (w := w) (dst := dst) (ty := ty) (pos := pos) (af := af) (g := g) (T := T) (U := U) hx hy
  rw [hc, wrap_id h0 h1] at this
  exact this
theorem Run.sub {x y : Operand} {T U : TypeId} {a b c : Int} (hx : ev e x = some (.int .i64 a)) (hy : ev e y = some (.int .i64 b)) (hc : a - b = c) (h0 : -9223372036854775808 ≤ c) (h1 : c ≤ 9223372036854775807) :
    Run P e ⟨dst, .binOp .sub T x y U, ty, pos, af, g⟩ w (.ok (.value (.int .i64 c)) w) := by
  have := Run.subW (P := P) (w := w) (dst := dst) (ty := ty) (pos := pos) (af := af) (g := g) (T := T) (U := U) hx hy
  rw [hc, wrap_id h0 h1] at this
  exact this
theorem Run.remN {x y : Operand} {T U : TypeId} {k : IntKind} {a b : Nat} (hx : ev e x = some (.int k (a : Int))) (hy : ev e y = some (.int k (b : Int))) (hb : 0 < b) :
    Run P e ⟨dst, .binOp .rem T x y U, ty, pos, af, g⟩ w (.ok (.value (.int k ((a % b : Nat) : Int))) w) := by
  intro ρ hρ
  have h : ¬ (b : Int) = 0 := by omega
  have h2 : (a : Int).tmod (b : Int) = ((a % b : Nat) : Int) := by rw [Int.tmod_eq_emod_of_nonneg (by omega)]; omega
  have h3 : ¬ b = 0 := by omega
  simp [execOp, hρ _ _ hx, hρ _ _ hy, eqGuard, binOp, Op.intDiv, h3]
  simpa using h2
theorem Run.convW {x : Operand} {S T : TypeId} {j k : IntKind} {a : Int} (hT : P.underlying T = some (.int k)) (hS : ∃ d, P.underlying S = some d) (hx : ev e x = some (.int j a)) : Run P e ⟨dst, .convert S T x, ty, pos, af, g⟩ w (.ok (.value (.int k (k.wrap a))) w) := by
  intro ρ hρ
  obtain ⟨d, hd⟩ := hS
  simp [execOp, hρ _ _ hx, convert, run_underlying hT, run_underlying hd, Conv.intToInt]
theorem Run.conv64 {x : Operand} {S T : TypeId} {j : IntKind} {a : Int} (hT : P.underlying T = some (.int .i64)) (hS : ∃ d, P.underlying S = some d) (hx : ev e x = some (.int j a)) (h0 : -9223372036854775808 ≤ a) (h1 : a ≤ 9223372036854775807) :
    Run P e ⟨dst, .convert S T x, ty, pos, af, g⟩ w (.ok (.value (.int .i64 a)) w) := by
  have := Run.convW (P := P) (w := w) (dst := dst) (ty := ty) (pos := pos) (af := af) (g := g) hT hS hx
  rw [wrap_id h0 h1] at this
  exact this
theorem Run.not {x : Operand} {T : TypeId} {b : Bool} (hx : ev e x = some (.bool b)) : Run P e ⟨dst, .unOp .not T x, ty, pos, af, g⟩ w (.ok (.value (.bool (!b))) w) := by
  intro ρ hρ; simp [execOp, hρ _ _ hx, Op.unary]
theorem Run.nil {x : Operand} {a : Addr} (hx : ev e x = some (.pointer (some a))) : Run P e ⟨dst, .nilCheck x, ty, pos, af, g⟩ w (.ok (.value (.pointer (some a))) w) := by
  intro ρ hρ; simp [execOp, hρ _ _ hx]
theorem Run.extract {x : Operand} {vs : Array Value} {i : Nat} {v : Value} (hx : ev e x = some (.tuple vs)) (hi : vs[i]? = some v) : Run P e ⟨dst, .extract x i, ty, pos, af, g⟩ w (.ok (.value v) w) := by
  intro ρ hρ; simp [execOp, hρ _ _ hx, Instr.extract, hi]
theorem Run.len {x : Operand} {T E : TypeId} {b : Option Addr} {l c : Nat} (hT : P.underlying T = some (.slice E)) (hx : ev e x = some (.slice b l c)) :
    Run P e ⟨dst, .call ⟨.builtin .len, #[x], #[T]⟩, ty, pos, af, g⟩ w (.ok (.value (.int .i64 (l : Int))) w) := by
  intro ρ hρ
  simp [execOp, resolve, invoke, builtin, hρ _ _ hx, Builtin.len_, run_underlying hT, goInt]

/-! ### Addresses -/
/-- Field f of struct type S begins at cell 'off'. -/
def Fld (P : Program) (S : TypeId) (f off : Nat) : Prop := ∃ fields fd, P.underlying S = some (.struct fields) ∧ fields[f]? = some fd ∧ fd.offset = off ∧ 0 < P.cellsOf fd.type

theorem Fld.of {S f off t k : Nat} {fields : Array Field} (hu : P.underlying S = some (.struct fields)) (hf : (fields[f]?).map (fun d => (d.offset, d.type)) = some (off, t)) (hc : P.cellsOf t = k) (hk : 0 < k) : Fld P S f off := by
  cases hd : fields[f]? with
  | none => simp [hd] at hf
  | some d =>
    simp only [hd, Option.map_some, Option.some.injEq, Prod.mk.injEq] at hf
    exact ⟨fields, d, hu, hd, hf.1, by rw [hf.2, hc]; exact hk⟩

theorem Run.field {x : Operand} {S f off b o : Nat} (hF : Fld P S f off) (hx : ev e x = some (.pointer (some ⟨b, o, none⟩))) : Run P e ⟨dst, .fieldAddr S x f, ty, pos, af, g⟩ w (.ok (.value (.pointer (some ⟨b, o + off, none⟩))) w) := by
  intro ρ hρ
  obtain ⟨fields, fd, hS, hf, ho, hc⟩ := hF
  have hne : ¬ P.cellsOf fd.type = 0 := by omega
  simp [execOp, hρ _ _ hx, Instr.fieldAt, run_underlying hS, hf, Instr.sureAddr, fieldPlace, run_sizeOf rfl hc, hne, addr_add, ho]

theorem Run.indexZ {x y : Operand} {T E k : Nat} {kk : IntKind} {b o l c : Nat} {i : Int} (hT : P.underlying T = some (.slice E)) (hE : P.cellsOf E = k) (hk : 0 < k)
    (hx : ev e x = some (.slice (some ⟨b, o, none⟩) l c)) (hy : ev e y = some (.int kk i)) (h0 : 0 ≤ i) (h1 : i < l) :
    Run P e ⟨dst, .indexAddr T x y, ty, pos, af, g⟩ w (.ok (.value (.pointer (some ⟨b, o + i.toNat * k, none⟩))) w) := by
  intro ρ hρ
  simp [execOp, hρ _ _ hx, hρ _ _ hy, Instr.indexAt, asIntOf, run_underlying hT, run_sizeOf hE hk, h0, h1, addr_add]

theorem Run.index {x y : Operand} {T E k : Nat} {kk : IntKind} {b o l c i : Nat} (hT : P.underlying T = some (.slice E)) (hE : P.cellsOf E = k) (hk : 0 < k)
    (hx : ev e x = some (.slice (some ⟨b, o, none⟩) l c)) (hy : ev e y = some (.int kk (i : Int))) (h1 : i < l) :
    Run P e ⟨dst, .indexAddr T x y, ty, pos, af, g⟩ w (.ok (.value (.pointer (some ⟨b, o + i * k, none⟩))) w) := by
  have := Run.indexZ (P := P) (w := w) (dst := dst) (ty := ty) (pos := pos) (af := af) (g := g) hT hE hk hx hy (by omega) (by omega)
  simpa using this

theorem Run.indexArr {x y : Operand} {T E k m : Nat} {kk : IntKind} {b o : Nat} {i : Int} (hT : P.underlying T = some (.array m E)) (hE : P.cellsOf E = k) (hk : 0 < k)
    (hx : ev e x = some (.pointer (some ⟨b, o, none⟩))) (hy : ev e y = some (.int kk i)) (h0 : 0 ≤ i) (h1 : i < m) :
    Run P e ⟨dst, .indexAddr T x y, ty, pos, af, g⟩ w (.ok (.value (.pointer (some ⟨b, o + i.toNat * k, none⟩))) w) := by
  intro ρ hρ
  simp [execOp, hρ _ _ hx, hρ _ _ hy, Instr.indexAt, asIntOf, run_underlying hT, Instr.sureAddr, run_sizeOf hE hk, h0, h1, addr_add]

/-! ### Loads and stores -/
theorem Run.load {x : Operand} {T : TypeId} {a : Addr} {v : Value} (hT : Ty1 P T) (hx : ev e x = some (.pointer (some a))) (hc : w.cell? a = some v) : Run P e ⟨dst, .load T x, ty, pos, af, g⟩ w (.ok (.value v) w) := by
  intro ρ hρ
  obtain ⟨⟨d, hd, ha⟩, _⟩ := hT
  simp [execOp, hρ _ _ hx, Instr.loadAt, Instr.sureAddr, loadVar, run_isAgg hd, ha, hc]

theorem Run.loadA {x : Operand} {T b o : Nat} {cs : List Value} (hT : TyA P T cs.length) (hx : ev e x = some (.pointer (some ⟨b, o, none⟩)))
    (hc : ∀ j v, cs[j]? = some v → w.cell? ⟨b, o + j, none⟩ = some v) : Run P e ⟨dst, .load T x, ty, pos, af, g⟩ w (.ok (.value (.agg cs.toArray)) w) := by
  intro ρ hρ
  obtain ⟨⟨d, hd, ha⟩, hcs, hp⟩ := hT
  have := run_loadCells_list (P := P) w ⟨b, o, none⟩ cs (fun j v h => by rw [addr_add]; exact hc j v h)
  simp [execOp, hρ _ _ hx, Instr.loadAt, Instr.sureAddr, loadVar, run_isAgg hd, ha, run_sizeOf hcs hp, this]

theorem Run.store {x y : Operand} {T b o : Nat} {E : TypeId} {l : List Value} {v : Value} (hT : P.cellsOf T = 1) (hx : ev e x = some (.pointer (some ⟨b, o, none⟩))) (hy : ev e y = some v) (h1 : v.oneCell' = true)
    (hb : Blk w b E l) (ho : o < l.length) : Run P e ⟨dst, .store T x y, ty, pos, af, g⟩ w (.ok .skip (stl w b (l.set o v))) := by
  intro ρ hρ
  have hst := run_storeCells_at P b o E [v] 0 l.toArray w hb (by simp; omega) (by simpa using h1)
  have hl : (l.take o ++ [v] ++ l.drop (o + 1)) = l.set o v := by rw [List.set_eq_take_append_cons_drop, if_pos ho]; simp
  simp only [Nat.add_zero, List.length_singleton, hl] at hst
  simp [execOp, hρ _ _ hx, hρ _ _ hy, Instr.storeAt, Instr.sureAddr, storeVar, run_sizeOf hT (by omega), one_cells h1, hst, Fw.stl]

theorem Run.storeA {x y : Operand} {T b o : Nat} {E : TypeId} {l cs : List Value} (hT : P.cellsOf T = cs.length) (hp : 0 < cs.length) (hx : ev e x = some (.pointer (some ⟨b, o, none⟩))) (hy : ev e y = some (.agg cs.toArray)) (h1 : ∀ v ∈ cs, v.oneCell' = true)
    (hb : Blk w b E l) (ho : o + cs.length ≤ l.length) : Run P e ⟨dst, .store T x y, ty, pos, af, g⟩ w (.ok .skip (stl w b (l.take o ++ cs ++ l.drop (o + cs.length)))) := by
  intro ρ hρ
  have hst := run_storeCells_at P b o E cs 0 l.toArray w hb (by simp; omega) h1
  simp only [Nat.add_zero] at hst
  simp [execOp, hρ _ _ hx, hρ _ _ hy, Instr.storeAt, Instr.sureAddr, storeVar, run_sizeOf hT hp, Value.cells, hst, Fw.stl]

/-! ### New memory -/
def Zero (P : Program) (T : TypeId) (z : Value) : Prop := (P.info? T).bind (·.zero) = some z

theorem Zero.of {T : TypeId} {z : Value} (h : (P.info? T).bind (·.zero) = some z) : Zero P T z := h

theorem Zero.info {T : TypeId} {z : Value} (h : Zero P T z) : ∃ i, P.info? T = some i ∧ i.zero = some z := by
  unfold Zero at h
  cases hi : P.info? T with
  | none => simp [hi] at h
  | some i => exact ⟨i, rfl, by simpa [hi] using h⟩

/-- T: a slice type, its elements of type E, each of 'size' cells and 'bytes' bytes. -/
structure Elt (P : Program) (T E : TypeId) (size bytes : Nat) : Prop where
  info : ∃ i z, P.underlying T = some (.slice E) ∧ P.info? E = some i ∧ i.zero = some z ∧ i.size = size ∧ i.bytes = bytes ∧ z.cells.size = size ∧ 0 < size

theorem Elt.of {T E size bytes : Nat} (hT : P.underlying T = some (.slice E)) (h : (P.info? E).map (fun i => (i.size, i.bytes, i.zero.map (·.cells.toList.length))) = some (size, bytes, some size)) (hp : 0 < size) : Elt P T E size bytes := by
  cases hi : P.info? E with
  | none => simp [hi] at h
  | some i =>
    simp only [hi, Option.map_some, Option.some.injEq, Prod.mk.injEq] at h
    obtain ⟨h1, h2, h3⟩ := h
    cases hz : i.zero with
    | none => simp [hz] at h3
    | some z => exact ⟨i, z, hT, hi, hz, h1, h2, by simpa [hz] using h3, hp⟩

theorem Elt.under {T E size bytes : Nat} (h : Elt P T E size bytes) : P.underlying T = some (.slice E) := let ⟨_, _, h, _⟩ := h.info; h
theorem Elt.hpos {T E size bytes : Nat} (h : Elt P T E size bytes) : 0 < size := let ⟨_, _, _, _, _, _, _, _, h⟩ := h.info; h
theorem Elt.cells {T E size bytes : Nat} (h : Elt P T E size bytes) : P.cellsOf E = size := by
  obtain ⟨i, z, _, hi, _, hs, _⟩ := h.info
  simp [Program.cellsOf, hi, hs]

/-- c times the cells zs. -/
def rep (c : Nat) (zs : List Value) : List Value := (List.replicate c zs).flatten

theorem rep_one (c : Nat) (z : Value) : rep c [z] = List.replicate c z := by
  unfold rep
  induction c with
  | zero => rfl
  | succ c ih => simp [List.replicate_succ, ih]
theorem rep_length (c : Nat) (zs : List Value) : (rep c zs).length = c * zs.length := by
  unfold rep
  induction c with
  | zero => simp
  | succ c ih => simp [List.replicate_succ, ih, Nat.add_mul]; omega
theorem rep_get (c : Nat) (zs : List Value) (i : Nat) (hi : i < c * zs.length) : (rep c zs)[i]? = zs[i % zs.length]? := by
  unfold rep
  induction c generalizing i with
  | zero => simp at hi
  | succ c ih =>
    rw [List.replicate_succ, List.flatten_cons]
    by_cases h : i < zs.length
    · rw [List.getElem?_append_left h, Nat.mod_eq_of_lt h]
    · rw [List.getElem?_append_right (by omega), ih _ (by rw [Nat.add_mul] at hi; omega)]
      rw [Nat.mod_eq_sub_mod (by omega : i ≥ zs.length)]
theorem madeCells_rep (c : Nat) (zs : List Value) (hz : 0 < zs.length) : madeCells zs.toArray (c * zs.length) = (rep c zs).toArray := by
  apply Array.ext'
  apply List.ext_getElem?
  intro i
  by_cases hi : i < c * zs.length
  · have hm : i % zs.length < zs.length := Nat.mod_lt _ hz
    rw [show (rep c zs).toArray.toList = rep c zs from rfl, rep_get c zs i hi]
    simp [madeCells, hi, hm]
  · rw [List.getElem?_eq_none (by simp [madeCells]; omega), List.getElem?_eq_none (by simp [rep_length]; omega)]

theorem Run.alloc {T : TypeId} {z : Value} {l : List Value} (hz : Zero P T z) (hl : z.cells = l.toArray) : Run P e ⟨dst, .alloc T, ty, pos, af, g⟩ w (.ok (.value (.pointer (some ⟨w.heap.size, 0, none⟩))) (w.alloc (.cells l.toArray T))) := by
  intro ρ hρ
  obtain ⟨i, hi, hz⟩ := hz.info
  simp [execOp, Instr.alloc, zeroValue, typeInfo, hi, hz, newVar, newRow, hl]
theorem Run.box {T : TypeId} {x : Operand} {v : Value} {l : List Value} (hx : ev e x = some v) (hl : v.cells = l.toArray) : Run P e ⟨dst, .box T x, ty, pos, af, g⟩ w (.ok (.value (.pointer (some ⟨w.heap.size, 0, none⟩))) (w.alloc (.cells l.toArray T))) := by
  intro ρ hρ
  simp [execOp, hρ _ _ hx, Instr.box, newVar, newRow, hl]
theorem Run.build {T : TypeId} {parts : Array (Nat × Operand)} {vs : List Value} {v : Value} (hx : evs e (parts.toList.map (·.2)) = some vs)
    (h : (Instr.build T ((parts.toList.map (·.1)).zip vs).toArray).run P w = .ok v w) : Run P e ⟨dst, .build T parts, ty, pos, af, g⟩ w (.ok (.value v) w) := by
  intro ρ hρ
  have h1 : parts.map (fun (i, x) => (i, ρ x)) = ((parts.toList.map (·.1)).zip vs).toArray := by
    rw [← hρ.evs hx]
    apply Array.ext'
    simp only [Array.toList_map]
    generalize parts.toList = ps
    induction ps with
    | nil => rfl
    | cons p ps ih => simp [ih]
  simp only [execOp, h1]
  simp [h]
theorem Run.buildSlice {T len : Nat} {parts : Array (Nat × Operand)} {vs : List Value} {v : Value} {w' : World} (hx : evs e (parts.toList.map (·.2)) = some vs)
    (h : (Instr.buildSlice T len ((parts.toList.map (·.1)).zip vs).toArray).run P w = .ok v w') : Run P e ⟨dst, .buildSlice T len parts, ty, pos, af, g⟩ w (.ok (.value v) w') := by
  intro ρ hρ
  have h1 : parts.map (fun (i, x) => (i, ρ x)) = ((parts.toList.map (·.1)).zip vs).toArray := by
    rw [← hρ.evs hx]
    apply Array.ext'
    simp only [Array.toList_map]
    generalize parts.toList = ps
    induction ps with
    | nil => rfl
    | cons p ps ih => simp [ih]
  simp only [execOp, h1]
  simp [h]
theorem Run.make {T E size bytes : Nat} {x y : Operand} {zs : List Value} {z : Value} {l c : Nat} (hE : Elt P T E size bytes) (hz : Zero P E z) (hzs : z.cells = zs.toArray)
    (hx : ev e x = some (.int .i64 (l : Int))) (hy : ev e y = some (.int .i64 (c : Int))) (hlc : l ≤ c) (hb : bytes * c ≤ 281474976710656) (hc : c ≤ 9223372036854775807) :
    Run P e ⟨dst, .makeSlice T x y, ty, pos, af, g⟩ w (.ok (.value (.slice (some ⟨w.heap.size, 0, none⟩) l c)) (w.alloc (.cells (rep c zs).toArray E))) := by
  intro ρ hρ
  obtain ⟨i, z', hT, hi, hz', hs, hby, hcs, hp⟩ := hE.info
  obtain ⟨i', hi', hz⟩ := hz.info
  rw [hi] at hi'
  cases hi'
  have hzz : z' = z := by rw [hz'] at hz; exact Option.some.inj hz
  subst hzz
  subst hby
  subst hs
  have hb' : (i.bytes : Int) * (c : Int) ≤ 281474976710656 := by
    have h : ((i.bytes * c : Nat) : Int) ≤ 281474976710656 := by omega
    rwa [Int.natCast_mul] at h
  have h := run_make (P := P) w T E i z' hT hi hz' .i64 .i64 l c (by omega) (by omega) hb' (by omega)
  have hl : zs.length = i.size := by rw [← hcs, hzs]; simp
  rw [hzs, ← hl] at h
  simp only [Int.toNat_natCast, madeCells_rep c zs (by omega)] at h
  simp [execOp, hρ _ _ hx, hρ _ _ hy, h]
theorem Run.makeMap {T : TypeId} : Run P e ⟨dst, .makeMap T none, ty, pos, af, g⟩ w (.ok (.value (.map (some w.heap.size))) (w.alloc (.map #[] 0))) := by
  intro ρ hρ
  simp [execOp, Instr.makeMap]

end
end Go.Fw
