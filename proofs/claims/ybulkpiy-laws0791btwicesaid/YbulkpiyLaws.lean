/-
  The two laws' walks, over what their arguments hold.
-/
import Derived.Test.YbulkpiyLaw
namespace Go.Proofs.Ybulkpiy
open Go.Fw Go.RowKit
attribute [local simp] Go.Fw.stl_size Go.Fw.sto_size

theorem upd_below {w w' : World} {N : Nat} {ms ms' : Nat → Mk} {B : Nat} (h : Upd w w' (foots ms) (foots ms')) (hok : MksOk w N ms) (hB : B ≤ N) (hBw : B ≤ w.heap.size) : Below B w w' :=
  h.below hBw (fun b hb => by have := (hok.lt hb).1; omega)

set_option maxRecDepth 100000
theorem index_law (w : World) (v pv : Value) (fs : List Fo) (prior : List Nat) (hfs : Fs w v fs) (hpr : U8s w pv prior) (hlen : ∀ f ∈ fs, f.hs.length ≤ 1000000000000000) :
    Calls Yba.prog 3 #[v, pv] w fun e w' => e = .returned (.bool true) ∧ Below w.heap.size w w' := by
  generalize hRR : (fun (e : Ending) (w' : World) => e = .returned (.bool true) ∧ Below w.heap.size w w') = R
  have hR : ∀ w', Below w.heap.size w w' → R (.returned (.bool true)) w' := fun w' h => by rw [← hRR]; exact ⟨rfl, h⟩
  clear hRR
  refine calls (args := [_, _]) (m := 2) Yba.func3 rfl rfl rfl (by decide) ?_
  refine J.seq ?_
  refine J.region ?_    -- region 0
  refine JL.val (Run.assign rfl) ?_    -- s4 := assign c:bool(false)
  refine JL.to (fun _ _ h => h) ?_
  refine J.seq ?_
  refine J.seq ?_
  refine J.region ?_    -- region 1
  refine JL.val (Run.move rfl) ?_    -- s8 := move t0
  refine JL.call rfl Yba.func5 rfl rfl ?_    -- s9 := CALL f5(t8) [22]
  refine small_calls w v fs hfs hlen _ ?_
  intro b w1 hb1 hsm
  refine ⟨_, rfl, ?_⟩
  refine JL.val (Run.not rfl) ?_    -- s10 := UnOp.not t9
  refine JL.to (fun _ _ h => h) ?_
  cases b with
  | false =>
    refine J.condT rfl rfl ?_    -- if t10
    refine J.seq ?_
    refine J.region ?_    -- region 2
    refine JL.val (Run.assign rfl) ?_    -- s4 := assign c:bool(true)
    refine JL.to (fun _ _ h => h) ?_
    refine J.ret1 Yba.f3 R (fun _ _ h => h) rfl rfl ?_
    exact hR w1 hb1
  | true =>
    obtain ⟨hfl, htot⟩ := hsm rfl
    refine J.condF rfl rfl ?_    -- if t10
    refine J.skipTo (fun _ _ h => h) ?_
    refine J.seq ?_
    refine J.region ?_    -- region 3
    refine JL.val (Run.move rfl) ?_    -- s12 := move t0
    refine JL.val (Run.move rfl) ?_    -- s13 := move t1
    refine JL.call rfl Yba.func6 rfl rfl ?_    -- s14 := CALL f6(t12, t13) [22,23]
    refine build_calls w1 fs v pv prior (hfs.below hb1) (hpr.below hb1) hfl htot _ ?_
    intro w2 N sb bm msb rp sl ms fv rv hb2 hN1 hN2 hok2 him2 hlen2
    refine ⟨_, rfl, ?_⟩
    refine JL.val (Run.move rfl) ?_    -- s11 := move t14
    refine JL.val (Run.extract rfl rfl) ?_    -- s15 := extract t11 0
    refine JL.val (Run.extract rfl rfl) ?_    -- s16 := extract t11 1
    refine JL.val (Run.extract rfl rfl) ?_    -- s17 := extract t11 2
    refine JL.val (Run.assign rfl) ?_    -- s5 := assign t15
    refine JL.val (Run.assign rfl) ?_    -- s6 := assign t16
    refine JL.val (Run.assign rfl) ?_    -- s7 := assign t17
    refine JL.to (fun _ _ h => h) ?_
    have hb12 : Below w.heap.size w w2 := hb1.trans (hb2.mono hb1.size)
    refine J.seq ?_
    refine J.region ?_    -- region 4
    refine JL.val (Run.move rfl) ?_    -- s18 := move t5
    refine JL.call rfl Yba.func7 rfl rfl ?_    -- s19 := CALL f7(t18) [25]
    refine reindex_calls w2 N sb bm msb (bsOf ms) rp sl fs fv rv ms hok2 hN2 (fun _ _ => rfl) him2 (fun k hk => by rw [hlen2 k hk]; have := want0_le prior k; omega) hfl htot _ ?_
    intro w3 ms3 hok3 hu3 hb3 hrl3 hl3
    refine ⟨_, rfl, ?_⟩
    refine JL.to (fun _ _ h => h) ?_
    have hb13 : Below w.heap.size w w3 := hb12.trans (upd_below hu3 hok2 (Nat.le_trans hb1.size hN1) hb12.size)
    refine J.seq ?_
    refine J.region ?_    -- region 5
    refine JL.val (Run.move rfl) ?_    -- s20 := move t5
    refine JL.val (Run.move rfl) ?_    -- s21 := move t6
    refine JL.val (Run.move rfl) ?_    -- s22 := move t7
    refine JL.val (Run.move rfl) ?_    -- s23 := move t0
    refine JL.val (Run.move rfl) ?_    -- s24 := move t1
    refine JL.call rfl Yba.func8 rfl rfl ?_    -- s25 := CALL f8(t20, t21, t22, t23, t24) [25,26,27,22,23]
    refine check_calls w3 N sb bm msb (bsOf ms) rp sl fs fv rv v pv prior ms3 hok3 hb3 (him2.upd hu3) (hfs.below hb13) (hpr.below hb13) hfl htot ?_ _ ?_
    · intro k hk
      rw [hl3 k hk, hlen2 k hk]
      exact upto_exact fs prior k _ rfl
    intro w4 hb4
    refine ⟨_, rfl, ?_⟩
    refine JL.val (Run.assign rfl) ?_    -- s4 := assign t25
    refine JL.to (fun _ _ h => h) ?_
    refine J.ret1 Yba.f3 R (fun _ _ h => h) rfl rfl ?_
    exact hR w4 (hb13.trans (hb4.mono hb13.size))

theorem twice_law (w : World) (v pv : Value) (fs : List Fo) (prior : List Nat) (hfs : Fs w v fs) (hpr : U8s w pv prior) (hlen : ∀ f ∈ fs, f.hs.length ≤ 1000000000000000) :
    Calls Yba.prog 4 #[v, pv] w fun e w' => e = .returned (.bool true) ∧ Below w.heap.size w w' := by
  generalize hRR : (fun (e : Ending) (w' : World) => e = .returned (.bool true) ∧ Below w.heap.size w w') = R
  have hR : ∀ w', Below w.heap.size w w' → R (.returned (.bool true)) w' := fun w' h => by rw [← hRR]; exact ⟨rfl, h⟩
  clear hRR
  refine calls (args := [_, _]) (m := 2) Yba.func4 rfl rfl rfl (by decide) ?_
  refine J.seq ?_
  refine J.region ?_    -- region 0
  refine JL.val (Run.assign rfl) ?_    -- s4 := assign c:bool(false)
  refine JL.to (fun _ _ h => h) ?_
  refine J.seq ?_
  refine J.seq ?_
  refine J.region ?_    -- region 1
  refine JL.val (Run.move rfl) ?_    -- s8 := move t0
  refine JL.call rfl Yba.func5 rfl rfl ?_    -- s9 := CALL f5(t8) [22]
  refine small_calls w v fs hfs hlen _ ?_
  intro b w1 hb1 hsm
  refine ⟨_, rfl, ?_⟩
  refine JL.val (Run.not rfl) ?_    -- s10 := UnOp.not t9
  refine JL.to (fun _ _ h => h) ?_
  cases b with
  | false =>
    refine J.condT rfl rfl ?_    -- if t10
    refine J.seq ?_
    refine J.region ?_    -- region 2
    refine JL.val (Run.assign rfl) ?_    -- s4 := assign c:bool(true)
    refine JL.to (fun _ _ h => h) ?_
    refine J.ret1 Yba.f4 R (fun _ _ h => h) rfl rfl ?_
    exact hR w1 hb1
  | true =>
    obtain ⟨hfl, htot⟩ := hsm rfl
    refine J.condF rfl rfl ?_    -- if t10
    refine J.skipTo (fun _ _ h => h) ?_
    refine J.seq ?_
    refine J.region ?_    -- region 3
    refine JL.val (Run.move rfl) ?_    -- s12 := move t0
    refine JL.val (Run.move rfl) ?_    -- s13 := move t1
    refine JL.call rfl Yba.func6 rfl rfl ?_    -- s14 := CALL f6(t12, t13) [22,23]
    refine build_calls w1 fs v pv prior (hfs.below hb1) (hpr.below hb1) hfl htot _ ?_
    intro w2 N sb bm msb rp sl ms fv rv hb2 hN1 hN2 hok2 him2 hlen2
    refine ⟨_, rfl, ?_⟩
    refine JL.val (Run.move rfl) ?_    -- s11 := move t14
    refine JL.val (Run.extract rfl rfl) ?_    -- s15 := extract t11 0
    refine JL.val (Run.extract rfl rfl) ?_    -- s16 := extract t11 1
    refine JL.val (Run.extract rfl rfl) ?_    -- s17 := extract t11 2
    refine JL.val (Run.assign rfl) ?_    -- s5 := assign t15
    refine JL.val (Run.assign rfl) ?_    -- s6 := assign t16
    refine JL.val (Run.assign rfl) ?_    -- s7 := assign t17
    refine JL.to (fun _ _ h => h) ?_
    have hb12 : Below w.heap.size w w2 := hb1.trans (hb2.mono hb1.size)
    refine J.seq ?_
    refine J.region ?_    -- region 4
    refine JL.val (Run.move rfl) ?_    -- s18 := move t5
    refine JL.call rfl Yba.func7 rfl rfl ?_    -- s19 := CALL f7(t18) [25]
    refine reindex_calls w2 N sb bm msb (bsOf ms) rp sl fs fv rv ms hok2 hN2 (fun _ _ => rfl) him2 (fun k hk => by rw [hlen2 k hk]; have := want0_le prior k; omega) hfl htot _ ?_
    intro w3 ms3 hok3 hu3 hb3 hrl3 hl3
    refine ⟨_, rfl, ?_⟩
    refine JL.to (fun _ _ h => h) ?_
    have hb13 : Below w.heap.size w w3 := hb12.trans (upd_below hu3 hok2 (Nat.le_trans hb1.size hN1) hb12.size)
    refine J.seq ?_
    refine J.region ?_    -- region 5
    refine JL.val (Run.move rfl) ?_    -- s20 := move t5
    refine JL.call rfl Yba.func7 rfl rfl ?_    -- s21 := CALL f7(t20) [25]
    refine reindex_calls w3 N sb bm msb (bsOf ms) rp sl fs fv rv ms3 hok3 (Nat.le_trans hN2 hu3.size) hb3 (him2.upd hu3) hrl3 hfl htot _ ?_
    intro w4 ms4 hok4 hu4 hb4 hrl4 hl4
    refine ⟨_, rfl, ?_⟩
    refine JL.to (fun _ _ h => h) ?_
    have hb14 : Below w.heap.size w w4 := hb13.trans (upd_below hu4 hok3 (Nat.le_trans hb1.size hN1) hb13.size)
    refine J.seq ?_
    refine J.region ?_    -- region 6
    refine JL.val (Run.move rfl) ?_    -- s22 := move t5
    refine JL.val (Run.move rfl) ?_    -- s23 := move t6
    refine JL.val (Run.move rfl) ?_    -- s24 := move t7
    refine JL.val (Run.move rfl) ?_    -- s25 := move t0
    refine JL.val (Run.move rfl) ?_    -- s26 := move t1
    refine JL.call rfl Yba.func8 rfl rfl ?_    -- s27 := CALL f8(t22, t23, t24, t25, t26) [25,26,27,22,23]
    refine check_calls w4 N sb bm msb (bsOf ms) rp sl fs fv rv v pv prior ms4 hok4 hb4 ((him2.upd hu3).upd hu4) (hfs.below hb14) (hpr.below hb14) hfl htot ?_ _ ?_
    · intro k hk
      have h1 : (ms3 k).rows.length = want prior fs k := by
        rw [← lists_length, hl3 k hk, hlen2 k hk]
        exact (upto_exact fs prior k _ rfl).1
      rw [hl4 k hk, h1]
      exact upto_exact fs prior k _ (wfos_absorb fs k (want0 prior k) _ (Nat.le_refl _))
    intro w5 hb5
    refine ⟨_, rfl, ?_⟩
    refine JL.val (Run.assign rfl) ?_    -- s4 := assign t27
    refine JL.to (fun _ _ h => h) ?_
    refine J.ret1 Yba.f4 R (fun _ _ h => h) rfl rfl ?_
    exact hR w5 (hb14.trans (hb5.mono hb14.size))
end Go.Proofs.Ybulkpiy
