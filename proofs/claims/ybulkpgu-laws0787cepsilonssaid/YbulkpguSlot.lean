/-
  (*merge).slot at a pair that is not yet there.
-/
import Derived.Test.YbulkpguMap
import Derived.Test.YbulkpguState
namespace Go.Proofs.Ybulkpgu
open Go.Fw Go.RowKit
attribute [local simp] Go.Fw.stl_size Go.Fw.sto_size

def pairs (l : List (Int × Int)) : List Value := l.flatMap fun p => [.int .i32 p.1, .int .i32 p.2]
theorem pairs_len (l : List (Int × Int)) : (pairs l).length = l.length * 2 := by
  induction l with
  | nil => rfl
  | cons s l ih => simp [pairs] at ih ⊢; omega
theorem pairs_append (l l' : List (Int × Int)) : pairs (l ++ l') = pairs l ++ pairs l' := by simp [pairs]

abbrev ptr (b : Nat) : Value := .pointer (some ⟨b, 0, none⟩)

/-- The merge in memory: the pairs built so far, with their places; the values of its other slices. -/
structure Mg (h : Hn) (mb va vb : Nat) (l : List ((Int × Int) × Int)) (rv av ev sv : Value) : Prop where
  ex : ∃ pm qv, h (10, 0) = some (mb, cellsO [ptr va, ptr vb, .map (some pm), qv, rv, av, .slice none 0 0, ev, sv] 60) ∧ h (12, 0) = some (pm, mapO l) ∧ Sl h (11, 0) 54 2 qv l.length (pairs (l.map (·.1)))

theorem Mg.keep {h h' : Hn} {mb va vb : Nat} {l : List ((Int × Int) × Int)} {rv av ev sv : Value} (hm : Mg h mb va vb l rv av ev sv) (hk : ∀ n : Nat × Nat, 10 ≤ n.1 ∧ n.1 ≤ 12 → h' n = h n) : Mg h' mb va vb l rv av ev sv := by
  obtain ⟨pm, qv, h1, h2, h3⟩ := hm.ex
  exact ⟨pm, qv, by rw [hk _ (by simp)]; exact h1, by rw [hk _ (by simp)]; exact h2, h3.keep (hk _ (by simp))⟩

def FrS (h h' : Hn) : Prop := ∀ n : Nat × Nat, (3 ≤ n.1 ∧ n.1 ≤ 6) ∨ (13 ≤ n.1 ∧ n.1 ≤ 97) → h' n = h n
theorem FrS.refl (h : Hn) : FrS h h := fun _ _ => rfl
theorem FrS.trans {h h' h'' : Hn} (a : FrS h h') (b : FrS h' h'') : FrS h h'' := fun n hn => (b n hn).trans (a n hn)
theorem FrS.hup {h h' : Hn} (a : FrS h h') {k : Nat × Nat} (hk : k.1 ≤ 2 ∨ (10 ≤ k.1 ∧ k.1 ≤ 12) ∨ 98 ≤ k.1) (x : Option (Nat × Obj)) : FrS h (Go.Fw.hup h' k x) := fun n hn => by
  rw [hup_ne (fun e => by subst e; omega)]
  exact a n hn

set_option maxRecDepth 100000
theorem slot_calls {w0 w : World} {h : Hn} {mb va vb : Nat} {sts : List Sv} {l : List ((Int × Int) × Int)} {rv av ev sv : Value} (x y : Int) (takeOver : Bool)
    (hp : Hp w0 w h) (hle : LsE h 1 va sts) (hm : Mg h mb va vb l rv av ev sv) (hlen : sts.length ≤ 900000) (hll : l.length ≤ 900000) (hy : 0 ≤ y) (hnew : ∀ e ∈ l, e.1 ≠ (x, y))
    (R : Ending → World → Prop)
    (hR1 : takeOver = false ∨ x = -1 → ∀ w' h', Hp w0 w' h' → LsE h' 1 va (sts ++ [sv0]) → Mg h' mb va vb (l ++ [((x, y), (sts.length : Int))]) rv av ev sv → FrS h h' → R (.returned (.int .i32 (sts.length : Int))) w')
    (hR2 : takeOver = true → x ≠ -1 → ∀ w' h', Hp w0 w' h' → LsE h' 1 va sts → Mg h' mb va vb (l ++ [((x, y), x)]) rv av ev sv → FrS h h' → R (.returned (.int .i32 x)) w') :
    Calls Yba.prog 46 #[ptr mb, pv x y, .bool takeOver] w R := by
  refine calls (args := [_, _, _]) (m := 3) Yba.func46 rfl rfl rfl (by decide) ?_
  refine J.seq ?_
  refine J.region ?_    -- region 0
  refine JL.val (Run.box (l := [.int .i32 x, .int .i32 y]) rfl rfl) ?_    -- s4 := box 54 t1
  refine JL.val (Run.assign rfl) ?_    -- s6 := assign c:0:i32
  refine JL.to (fun _ _ h => h) ?_
  have hp1 := hp.new (98, 0) (cellsO [.int .i32 x, .int .i32 y] 54)
  have hle1 : LsE (hup h (98, 0) (some (w.heap.size, cellsO [.int .i32 x, .int .i32 y] 54))) 1 va sts := hle.keep fun n hn => hup_ne (fun e => by subst e; simp at hn)
  have hm1 : Mg (hup h (98, 0) (some (w.heap.size, cellsO [.int .i32 x, .int .i32 y] 54))) mb va vb l rv av ev sv := hm.keep fun n hn => hup_ne (fun e => by subst e; simp at hn)
  have hbx : hup h (98, 0) (some (w.heap.size, cellsO [.int .i32 x, .int .i32 y] 54)) (98, 0) = some (w.heap.size, cellsO [.int .i32 x, .int .i32 y] 54) := hup_same
  have hf1 : FrS h (hup h (98, 0) (some (w.heap.size, cellsO [.int .i32 x, .int .i32 y] 54))) := (FrS.refl h).hup (.inr (.inr (by simp))) _
  generalize hup h (98, 0) (some (w.heap.size, cellsO [.int .i32 x, .int .i32 y] 54)) = h1 at *
  generalize w.alloc (cellsO [.int .i32 x, .int .i32 y] 54) = w1 at *
  generalize w.heap.size = bx at *
  clear hp hle hm
  have hbk := hp1.blk hbx
  refine J.seq ?_
  refine J.seq ?_
  refine J.region ?_    -- region 1
  refine JL.val (Run.field fl54_1 rfl) ?_    -- s10 := field 54 t4 .1
  refine JL.val (Run.load t21 rfl (hbk.cell rfl)) ?_    -- s11 := load 21 [t10]
  refine JL.val (Run.eql rfl rfl) ?_    -- s12 := eql t11 c:-1:i32
  refine JL.to (fun _ _ h => h) ?_
  refine J.condF rfl (decide_eq_false (by omega)) ?_    -- if t12
  refine J.skipTo (fun _ _ h => h) ?_
  obtain ⟨pm, qv, hmk, hmap, hq⟩ := hm1.ex
  have hS : (Blk w1.drew mb 60 [ptr va, ptr vb, .map (some pm), qv, rv, av, .slice none 0 0, ev, sv] ∧ w1.drew.heap[pm]? = some (mapO l)) ∧ Blk w1.drew bx 54 [.int .i32 x, .int .i32 y] := ⟨⟨hp1.drew.blk hmk, hp1.drew.get hmap⟩, hp1.drew.blk hbx⟩
  refine J.seq ?_
  refine J.seq ?_
  -- region 3 draws
  refine J.draw (fun q => (Blk q mb 60 [ptr va, ptr vb, .map (some pm), qv, rv, av, .slice none 0 0, ev, sv] ∧ q.heap[pm]? = some (mapO l)) ∧ Blk q bx 54 [.int .i32 x, .int .i32 y]) 11 [(0, true), (1, true), (2, true), (3, true), (4, true), (5, true), (6, true), (7, true), (8, true), (9, true), (10, true)] (by kernel_rfl) (by kernel_rfl) ?_
  refine JS.take (i := 0) rfl hS (fun w' hw' => Run.move rfl) ?_    -- s16 := move t0
  refine JS.take (i := 1) rfl hS (fun w' hw' => Run.nil rfl) ?_    -- s17 := nilCheck t16
  refine JS.take (i := 2) rfl hS (fun w' hw' => Run.field fl60_2 rfl) ?_    -- s18 := field 60 t17 .2
  refine JS.take (i := 3) rfl hS (fun w' hw' => Run.load t57 rfl (hw'.1.1.cell rfl)) ?_    -- s19 := load 57 [t18]
  refine JS.take (i := 4) rfl hS (fun w' hw' => Run.loadA (cs := [.int .i32 x, .int .i32 y]) ta54 rfl (fun j u hj => by rw [Nat.zero_add]; exact hw'.2.cell hj)) ?_    -- s20 := load 54 [t4]
  refine JS.take (i := 5) rfl hS (fun w' hw' => Run.lookNone rfl rfl hw'.1.2 hnew) ?_    -- s21 := lookup 57 t19 t20 true
  refine JS.take (i := 6) rfl hS (fun w' hw' => Run.move rfl) ?_    -- s15 := move t21
  refine JS.take (i := 7) rfl hS (fun w' hw' => Run.extract rfl rfl) ?_    -- s22 := extract t15 0
  refine JS.take (i := 8) rfl hS (fun w' hw' => Run.extract rfl rfl) ?_    -- s23 := extract t15 1
  refine JS.take (i := 9) rfl hS (fun w' hw' => Run.assign rfl) ?_    -- s7 := assign t22
  refine JS.take (i := 10) rfl hS (fun w' hw' => Run.assign rfl) ?_    -- s8 := assign t23
  refine JS.to (fun _ _ h => h) ?_
  refine J.seq ?_
  refine J.region ?_    -- region 4
  refine JL.val (Run.move rfl) ?_    -- s24 := move t8
  refine JL.to (fun _ _ h => h) ?_
  refine J.condF rfl rfl ?_    -- if t24
  refine J.skipTo (fun _ _ h => h) ?_
  refine J.seq ?_
  refine J.region ?_    -- region 6
  refine JL.val (Run.field fl54_0 rfl) ?_    -- s26 := field 54 t4 .0
  refine JL.val (Run.load t21 rfl (hS.2.cell rfl)) ?_    -- s27 := load 21 [t26]
  refine JL.val (Run.assign rfl) ?_    -- s9 := assign t27
  refine JL.to (fun _ _ h => h) ?_
  refine J.mid (ι := Hn × Int × List Sv) (fun i => [(0, ptr mb), (4, ptr bx), (9, .int .i32 i.2.1)])
    (fun i w' => Hp w0 w' i.1 ∧ LsE i.1 1 va i.2.2 ∧ Mg i.1 mb va vb l rv av ev sv ∧ i.1 (98, 0) = some (bx, cellsO [.int .i32 x, .int .i32 y] 54) ∧ FrS h i.1 ∧
      (((takeOver = false ∨ x = -1) ∧ i.2.1 = (sts.length : Int) ∧ i.2.2 = sts ++ [sv0]) ∨ (takeOver = true ∧ x ≠ -1 ∧ i.2.1 = x ∧ i.2.2 = sts))) ?_ ?_
  · refine J.mid (ι := Unit) (fun _ => [(0, ptr mb), (4, ptr bx), (9, .int .i32 x), (34, .bool (decide (takeOver = false ∨ x = -1)))]) (fun _ w' => w' = w1.drew) ?_ ?_
    · refine J.region ?_    -- region 7
      refine JL.val (Run.move rfl) ?_    -- s28 := move t2
      cases takeOver with
      | false =>
        refine JL.val ((Run.not rfl).to (v' := .bool true) rfl) ?_    -- s29 := UnOp.not t28
        refine JL.val (Run.move rfl) ?_    -- s30 := move t29
        refine JL.gskip rfl rfl ?_
        refine JL.gskip rfl rfl ?_
        refine JL.gskip rfl rfl ?_
        refine JL.val ((Run.pickT rfl rfl).to (v' := .bool (decide (false = false ∨ x = -1))) (by simp)) ?_    -- s34
        refine JL.nil fun a ha => ⟨(), ha.sub ⟨rfl, rfl, rfl, rfl, trivial⟩, rfl⟩
      | true =>
        refine JL.val ((Run.not rfl).to (v' := .bool false) rfl) ?_    -- s29 := UnOp.not t28
        refine JL.val (Run.move rfl) ?_    -- s30 := move t29
        refine JL.gval rfl rfl (Run.field fl54_0 rfl) ?_    -- s31
        refine JL.gval rfl rfl (Run.load t21 rfl (hS.2.cell rfl)) ?_    -- s32
        refine JL.gval rfl rfl (Run.eql rfl rfl) ?_    -- s33
        refine JL.val ((Run.pickF rfl rfl).to (v' := .bool (decide (true = false ∨ x = -1))) (by simp)) ?_    -- s34
        refine JL.nil fun a ha => ⟨(), ha.sub ⟨rfl, rfl, rfl, rfl, trivial⟩, rfl⟩
    · rintro _ _ rfl
      refine J.cond rfl (fun hc => ?_) (fun hc => ?_)    -- if t34
      · have hcc : takeOver = false ∨ x = -1 := of_decide_eq_true hc
        refine J.region ?_    -- region 8
        refine JL.val (Run.move rfl) ?_    -- s35 := move t0
        refine JL.val (Run.nil rfl) ?_    -- s36 := nilCheck t35
        refine JL.val (Run.field fl60_0 rfl) ?_    -- s37 := field 60 t36 .0
        refine JL.val (Run.load t56 rfl (hS.1.1.cell rfl)) ?_    -- s38 := load 56 [t37]
        refine JL.val (Run.nil rfl) ?_    -- s39 := nilCheck t38
        refine JL.val (Run.field fl44_0 rfl) ?_    -- s40 := field 44 t39 .0
        refine JL.val (Run.build rfl build48) ?_    -- s41 := build 48 []
        refine JL.call rfl Yba.func16 rfl rfl ?_    -- s42 := CALL f16(t40, t41) [42,48]
        refine add_calls (by omega) hp1.drew hle1 hlen _ ?_
        intro w2 h2 hp2 hle2 hf2
        refine ⟨_, rfl, ?_⟩
        refine JL.val (Run.assign rfl) ?_    -- s9 := assign t42
        refine JL.nil fun a ha => ⟨(h2, (sts.length : Int), sts ++ [sv0]), ha.sub ⟨rfl, rfl, rfl, trivial⟩, hp2, hle2, hm1.keep fun n hn => hf2 n (by omega) (by omega) (by omega), ?_, ?_, .inl ⟨hcc, rfl, rfl⟩⟩
        · exact (hf2 (98, 0) (by simp) (by simp) (by simp)).trans hbx
        · exact hf1.trans fun n hn => hf2 n (by omega) (by omega) (by omega)
      · have hcc : ¬ (takeOver = false ∨ x = -1) := of_decide_eq_false hc
        refine J.skip fun a ha => ⟨(h1, x, sts), ha.sub ⟨rfl, rfl, rfl, trivial⟩, hp1.drew, hle1, hm1, hbx, hf1, .inr ⟨?_, fun e => hcc (.inr e), rfl, rfl⟩⟩
        cases takeOver with
        | true => rfl
        | false => exact absurd (.inl rfl) hcc
  · clear hS hbk hmk hmap hq hbx hf1 hle1 hp1 hm1
    clear pm qv
    rintro ⟨h2, s, sts2⟩ w2 ⟨hp2, hle2, hm2, hbx, hf2, hor⟩
    simp only at hp2 hle2 hm2 hbx hf2 hor ⊢
    obtain ⟨pm, qv, hmk, hmap, hq⟩ := hm2.ex
    refine J.seq ?_
    -- region 9 draws
    have hS : Blk w2.drew mb 60 [ptr va, ptr vb, .map (some pm), qv, rv, av, .slice none 0 0, ev, sv] ∧ Blk w2.drew bx 54 [.int .i32 x, .int .i32 y] := ⟨hp2.drew.blk hmk, hp2.drew.blk hbx⟩
    refine J.draw (fun q => Blk q mb 60 [ptr va, ptr vb, .map (some pm), qv, rv, av, .slice none 0 0, ev, sv] ∧ Blk q bx 54 [.int .i32 x, .int .i32 y]) 6 [(0, true), (1, true), (2, true), (3, true), (4, true), (5, true), (6, false)] (by kernel_rfl) (by kernel_rfl) ?_
    refine JS.take (i := 0) rfl hS (fun w' hw' => Run.move rfl) ?_
    refine JS.take (i := 1) rfl hS (fun w' hw' => Run.nil rfl) ?_
    refine JS.take (i := 2) rfl hS (fun w' hw' => Run.field fl60_2 rfl) ?_
    refine JS.take (i := 3) rfl hS (fun w' hw' => Run.load t57 rfl (hw'.1.cell rfl)) ?_
    refine JS.take (i := 4) rfl hS (fun w' hw' => Run.loadA (cs := [.int .i32 x, .int .i32 y]) ta54 rfl (fun j u hj => by rw [Nat.zero_add]; exact hw'.2.cell hj)) ?_
    refine JS.take (i := 5) rfl hS (fun w' hw' => Run.move rfl) ?_
    refine JS.eff (i := 6) rfl (Run.mapPut rfl rfl rfl (hp2.drew.get hmap) hnew) (fun h => absurd rfl h) ?_
    refine JS.to (fun _ _ h => h) ?_
    have hp3 := hp2.drew.sto hmap (mapO (l ++ [((x, y), s)]))
    have hmk3 : hup h2 (12, 0) (some (pm, mapO (l ++ [((x, y), s)]))) (10, 0) = some (mb, cellsO [ptr va, ptr vb, .map (some pm), qv, rv, av, .slice none 0 0, ev, sv] 60) := by rw [hup_ne (by simp)]; exact hmk
    have hmap3 : hup h2 (12, 0) (some (pm, mapO (l ++ [((x, y), s)]))) (12, 0) = some (pm, mapO (l ++ [((x, y), s)])) := hup_same
    have hq3 : Sl (hup h2 (12, 0) (some (pm, mapO (l ++ [((x, y), s)])))) (11, 0) 54 2 qv l.length (pairs (l.map (·.1))) := hq.hup (by simp)
    have hbx3 : hup h2 (12, 0) (some (pm, mapO (l ++ [((x, y), s)]))) (98, 0) = some (bx, cellsO [.int .i32 x, .int .i32 y] 54) := by rw [hup_ne (by simp)]; exact hbx
    have hle3 : LsE (hup h2 (12, 0) (some (pm, mapO (l ++ [((x, y), s)])))) 1 va sts2 := hle2.keep fun n hn => hup_ne (fun e => by subst e; simp at hn)
    have hf3 : FrS h (hup h2 (12, 0) (some (pm, mapO (l ++ [((x, y), s)])))) := hf2.hup (.inr (.inl (by simp))) _
    generalize hup h2 (12, 0) (some (pm, mapO (l ++ [((x, y), s)]))) = h3 at *
    generalize Fw.sto w2.drew pm (mapO (l ++ [((x, y), s)])) = w3 at *
    clear hS hmk hmap hq hbx hle2 hf2 hp2 hm2
    -- region 10 draws
    have hpD := hp3.drew
    have hp4 := hpD.alloc (.cells [.int .i32 x, .int .i32 y].toArray 54)
    have hnew4 : Blk (w3.drew.alloc (.cells [.int .i32 x, .int .i32 y].toArray 54)) w3.drew.heap.size 54 [.int .i32 x, .int .i32 y] := Blk.new _ _ _
    obtain ⟨b5, cap5, w5, cur5, hrun, hp5, hs5⟩ := Hp.append (P := Yba.prog) (T := 58) (ad := ⟨w3.drew.heap.size, 0, none⟩) (m := 1) (c := 1) (news := [.int .i32 x, .int .i32 y]) hp4 el58 hq3 (by simp)
      (fun j u hj => by rw [addr_add, Nat.zero_add]; exact hnew4.cell hj) (by simp [Value.oneCell']) (by omega) (by omega) (by omega)
    have hmk5 : hup h3 (11, 0) (some (b5, cellsO cur5 54)) (10, 0) = some (mb, cellsO [ptr va, ptr vb, .map (some pm), qv, rv, av, .slice none 0 0, ev, sv] 60) := by rw [hup_ne (by simp)]; exact hmk3
    have hbx5 : hup h3 (11, 0) (some (b5, cellsO cur5 54)) (98, 0) = some (bx, cellsO [.int .i32 x, .int .i32 y] 54) := by rw [hup_ne (by simp)]; exact hbx3
    have hSa : Blk w3.drew mb 60 [ptr va, ptr vb, .map (some pm), qv, rv, av, .slice none 0 0, ev, sv] ∧ Blk w3.drew bx 54 [.int .i32 x, .int .i32 y] := ⟨hpD.blk hmk3, hpD.blk hbx3⟩
    have hSb : Blk (w3.drew.alloc (.cells [.int .i32 x, .int .i32 y].toArray 54)) mb 60 [ptr va, ptr vb, .map (some pm), qv, rv, av, .slice none 0 0, ev, sv] ∧ Blk (w3.drew.alloc (.cells [.int .i32 x, .int .i32 y].toArray 54)) bx 54 [.int .i32 x, .int .i32 y] := ⟨hp4.blk hmk3, hp4.blk hbx3⟩
    have hSc : Blk w5 mb 60 [ptr va, ptr vb, .map (some pm), qv, rv, av, .slice none 0 0, ev, sv] ∧ Blk w5 bx 54 [.int .i32 x, .int .i32 y] := ⟨hp5.blk hmk5, hp5.blk hbx5⟩
    refine J.seq ?_
    refine J.draw (fun q => Blk q mb 60 [ptr va, ptr vb, .map (some pm), qv, rv, av, .slice none 0 0, ev, sv] ∧ Blk q bx 54 [.int .i32 x, .int .i32 y]) 10 [(0, true), (1, true), (2, true), (3, true), (4, true), (5, true), (6, false), (7, false), (8, false), (9, true), (10, false)] (by kernel_rfl) (by kernel_rfl) ?_
    refine JS.take (i := 0) rfl hSa (fun w' hw' => Run.move rfl) ?_
    refine JS.take (i := 1) rfl hSa (fun w' hw' => Run.move rfl) ?_
    refine JS.take (i := 2) rfl hSa (fun w' hw' => Run.nil rfl) ?_
    refine JS.take (i := 3) rfl hSa (fun w' hw' => Run.field fl60_3 rfl) ?_
    refine JS.take (i := 4) rfl hSa (fun w' hw' => Run.load t58 rfl (hw'.1.cell rfl)) ?_
    refine JS.take (i := 5) rfl hSa (fun w' hw' => Run.loadA (cs := [.int .i32 x, .int .i32 y]) ta54 rfl (fun j u hj => by rw [Nat.zero_add]; exact hw'.2.cell hj)) ?_
    refine JS.loud (i := 6) rfl (Run.buildSlice rfl lit58) (fun _ => hSb) ?_
    refine JS.loud (i := 7) rfl (Run.append rfl rfl hrun) (fun _ => hSc) ?_
    refine JS.loud (i := 8) rfl (Run.nil rfl) (fun _ => hSc) ?_
    refine JS.take (i := 9) rfl hSc (fun w' hw' => Run.field fl60_3 rfl) ?_
    refine JS.eff (i := 10) rfl (Run.store c58 rfl rfl rfl hSc.1 (by simp)) (fun h => absurd rfl h) ?_
    refine JS.to (fun _ _ h => h) ?_
    have hp6 := hp5.stl hmk5 [ptr va, ptr vb, .map (some pm), .slice (some ⟨b5, 0, none⟩) (l.length + 1) cap5, rv, av, .slice none 0 0, ev, sv]
    have hm6 : Mg (hup (hup h3 (11, 0) (some (b5, cellsO cur5 54))) (10, 0) (some (mb, cellsO [ptr va, ptr vb, .map (some pm), .slice (some ⟨b5, 0, none⟩) (l.length + 1) cap5, rv, av, .slice none 0 0, ev, sv] 60))) mb va vb (l ++ [((x, y), s)]) rv av ev sv := by
      refine ⟨pm, .slice (some ⟨b5, 0, none⟩) (l.length + 1) cap5, hup_same, ?_, ?_⟩
      · rw [hup_ne (by simp), hup_ne (by simp)]; exact hmap3
      · rw [List.length_append, List.length_singleton, List.map_append, pairs_append]
        exact hs5.hup (by simp)
    have hle6 : LsE (hup (hup h3 (11, 0) (some (b5, cellsO cur5 54))) (10, 0) (some (mb, cellsO [ptr va, ptr vb, .map (some pm), .slice (some ⟨b5, 0, none⟩) (l.length + 1) cap5, rv, av, .slice none 0 0, ev, sv] 60))) 1 va sts2 :=
      hle3.keep fun n hn => by rw [hup_ne (fun e => by subst e; simp at hn), hup_ne (fun e => by subst e; simp at hn)]
    have hf6 := (hf3.hup (k := (11, 0)) (.inr (.inl (by simp))) (some (b5, cellsO cur5 54))).hup (k := (10, 0)) (.inr (.inl (by simp))) (some (mb, cellsO [ptr va, ptr vb, .map (some pm), .slice (some ⟨b5, 0, none⟩) (l.length + 1) cap5, rv, av, .slice none 0 0, ev, sv] 60))
    refine J.seq ?_
    refine J.region ?_    -- region 11
    refine JL.val (Run.move rfl) ?_    -- s59 := move t9
    refine JL.val (Run.assign rfl) ?_    -- s6 := assign t59
    refine JL.to (fun _ _ h => h) ?_
    refine J.ret1 Yba.f46 R (fun _ _ h => h) rfl rfl ?_
    rcases hor with ⟨hc, rfl, rfl⟩ | ⟨hc, hx, rfl, rfl⟩
    · exact hR1 hc _ _ hp6 hle6 hm6 hf6
    · exact hR2 hc hx _ _ hp6 hle6 hm6 hf6
end Go.Proofs.Ybulkpgu
