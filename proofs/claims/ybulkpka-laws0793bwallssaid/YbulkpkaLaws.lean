/-
  The two laws over what their arguments hold.
-/
import Derived.Test.YbulkpkaCheck
namespace Go.Proofs.Ybulkpka
open Go.Fw Go.RowKit

set_option maxRecDepth 100000
theorem distances_law (w : World) (nn ff : Nat) (v : Value) (es : List (Nat × Nat)) (hnn : nn < 256) (hff : ff < 256) (hv : Eds w v es) :
    Calls Yba.prog 3 #[.int .u8 (nn : Int), .int .u8 (ff : Int), v] w fun e w' => e = .returned (.bool true) ∧ Below w.heap.size w w' := by
  generalize hRR : (fun (e : Ending) (w' : World) => e = .returned (.bool true) ∧ Below w.heap.size w w') = R
  have hR : ∀ w', Below w.heap.size w w' → R (.returned (.bool true)) w' := fun w' h => by rw [← hRR]; exact ⟨rfl, h⟩
  clear hRR
  have hv0 := hv
  obtain ⟨a, cap, rfl, _⟩ := hv
  refine calls (args := [_, _, _]) (m := 3) Yba.func3 rfl rfl rfl (by decide) ?_
  refine J.seq ?_
  refine J.region ?_    -- region 0
  refine JL.val (Run.assign rfl) ?_    -- s6 := assign c:bool(false)
  refine JL.to (fun _ _ h => h) ?_
  refine J.seq ?_
  refine J.seq ?_
  refine J.region ?_    -- region 1
  refine JL.val (Run.move rfl) ?_    -- s9 := move t2
  refine JL.val (Run.len Yba.underlying22 rfl) ?_    -- s10 := builtin Builtin.len(t9) [22]
  refine JL.val (Run.gtr rfl rfl) ?_    -- s11 := gtr t10 c:1024:i64
  refine JL.to (fun _ _ h => h) ?_
  refine J.cond rfl (fun hc => ?_) (fun hc => ?_)    -- if t11
  · refine J.seq ?_
    refine J.region ?_    -- region 2
    refine JL.val (Run.assign rfl) ?_    -- s6 := assign c:bool(true)
    refine JL.to (fun _ _ h => h) ?_
    refine J.ret1 Yba.f3 R (fun _ _ h => h) rfl rfl ?_
    exact hR _ (Below.refl _ _)
  · have hes : es.length ≤ 1024 := by have := of_decide_eq_false hc; omega
    refine J.skipTo (fun _ _ h => h) ?_
    refine J.seq ?_
    refine J.region ?_    -- region 3
    refine JL.val (Run.move rfl) ?_    -- s12 := move t0
    refine JL.val (Run.conv64 Yba.underlying3 ⟨_, Yba.underlying5⟩ rfl (by omega) (by omega)) ?_    -- s13 := conv 5>3 t12
    refine JL.val (Run.remN (b := 40) rfl rfl (by decide)) ?_    -- s14 := rem t13 c:40:i64
    refine JL.val (Run.add (c := ((nn % 40 + 1 : Nat) : Int)) rfl rfl (by omega) (by omega) (by omega)) ?_    -- s15 := add t14 c:1:i64
    refine JL.val (Run.assign rfl) ?_    -- s7 := assign t15
    refine JL.to (fun _ _ h => h) ?_
    refine J.seq ?_
    refine J.region ?_    -- region 4
    refine JL.val (Run.move rfl) ?_    -- s16 := move t1
    refine JL.val (Run.conv64 Yba.underlying3 ⟨_, Yba.underlying5⟩ rfl (by omega) (by omega)) ?_    -- s17 := conv 5>3 t16
    refine JL.val (Run.move rfl) ?_    -- s18 := move t7
    refine JL.val (Run.remN (b := nn % 40 + 1) rfl rfl (by omega)) ?_    -- s19 := rem t17 t18
    refine JL.val (Run.assign rfl) ?_    -- s8 := assign t19
    refine JL.to (fun _ _ h => h) ?_
    refine J.seq ?_
    refine J.region ?_    -- region 5
    refine JL.val (Run.move rfl) ?_    -- s20 := move t7
    refine JL.val (Run.move rfl) ?_    -- s21 := move t2
    refine JL.val (Run.move rfl) ?_    -- s22 := move t8
    refine JL.call rfl Yba.func5 rfl rfl ?_    -- s23 := CALL f5(t20, t21, t22, c:slice(none,0,0)) [3,22,3,25]
    refine check_calls w (nn % 40 + 1) (ff % (nn % 40 + 1)) _ _ es [] hv0 ⟨none, 0, rfl, by simp⟩ (by omega) (by omega) (Nat.mod_lt _ (by omega)) hes (by simp) _ ?_
    intro w' hb
    refine ⟨_, rfl, ?_⟩
    refine JL.val (Run.assign rfl) ?_    -- s6 := assign t23
    refine JL.to (fun _ _ h => h) ?_
    refine J.ret1 Yba.f3 R (fun _ _ h => h) rfl rfl ?_
    exact hR _ hb

theorem walls_law (w : World) (nn ff : Nat) (v wv : Value) (es : List (Nat × Nat)) (bs : List Bool) (hnn : nn < 256) (hff : ff < 256) (hv : Eds w v es) (hwv : Bls w wv bs) :
    Calls Yba.prog 4 #[.int .u8 (nn : Int), .int .u8 (ff : Int), v, wv] w fun e w' => e = .returned (.bool true) ∧ Below w.heap.size w w' := by
  generalize hRR : (fun (e : Ending) (w' : World) => e = .returned (.bool true) ∧ Below w.heap.size w w') = R
  have hR : ∀ w', Below w.heap.size w w' → R (.returned (.bool true)) w' := fun w' h => by rw [← hRR]; exact ⟨rfl, h⟩
  clear hRR
  have hv0 := hv
  have hwv0 := hwv
  obtain ⟨a, cap, rfl, _⟩ := hv
  obtain ⟨wa, wcap, rfl, _⟩ := hwv
  refine calls (args := [_, _, _, _]) (m := 4) Yba.func4 rfl rfl rfl (by decide) ?_
  refine J.seq ?_
  refine J.region ?_    -- region 0
  refine JL.val (Run.assign rfl) ?_    -- s8 := assign c:bool(false)
  refine JL.to (fun _ _ h => h) ?_
  refine J.seq ?_
  refine J.mid (ι := Unit) (fun _ => [(0, .int .u8 (nn : Int)), (1, .int .u8 (ff : Int)), (2, .slice a es.length cap), (3, .slice wa bs.length wcap), (18, .bool (decide (1024 < es.length ∨ 1024 < bs.length)))]) (fun _ w' => w' = w) ?_ ?_
  · refine J.region ?_    -- region 1
    refine JL.val (Run.move rfl) ?_    -- s11 := move t2
    refine JL.val (Run.len Yba.underlying22 rfl) ?_    -- s12 := builtin Builtin.len(t11) [22]
    by_cases h1 : 1024 < es.length
    · refine JL.val ((Run.gtr rfl rfl).to (bt (by omega))) ?_    -- s13 := gtr t12 c:1024:i64
      refine JL.val (Run.move rfl) ?_    -- s14 := move t13
      refine JL.gskip rfl rfl ?_
      refine JL.gskip rfl rfl ?_
      refine JL.gskip rfl rfl ?_
      refine JL.val ((Run.pickT rfl rfl).to (v' := .bool (decide (1024 < es.length ∨ 1024 < bs.length))) (by simp [h1])) ?_
      refine JL.nil fun a ha => ⟨(), ha.sub ⟨rfl, rfl, rfl, rfl, rfl, trivial⟩, rfl⟩
    · refine JL.val ((Run.gtr rfl rfl).to (bf (by omega))) ?_    -- s13 := gtr t12 c:1024:i64
      refine JL.val (Run.move rfl) ?_    -- s14 := move t13
      refine JL.gval rfl rfl (Run.move rfl) ?_    -- s15 := move t3  G(3, False)
      refine JL.gval rfl rfl (Run.len Yba.underlying25 rfl) ?_    -- s16 := builtin Builtin.len(t15) [25]  G(3, False)
      refine JL.gval rfl rfl (Run.gtr rfl rfl) ?_    -- s17 := gtr t16 c:1024:i64  G(3, False)
      refine JL.val ((Run.pickF rfl rfl).to (v' := .bool (decide (1024 < es.length ∨ 1024 < bs.length))) (bd (decide_eq_decide.2 (by omega)))) ?_
      refine JL.nil fun a ha => ⟨(), ha.sub ⟨rfl, rfl, rfl, rfl, rfl, trivial⟩, rfl⟩
  rintro _ _ rfl
  refine J.cond rfl (fun hc => ?_) (fun hc => ?_)    -- if t18
  · refine J.seq ?_
    refine J.region ?_    -- region 2
    refine JL.val (Run.assign rfl) ?_    -- s8 := assign c:bool(true)
    refine JL.to (fun _ _ h => h) ?_
    refine J.ret1 Yba.f4 R (fun _ _ h => h) rfl rfl ?_
    exact hR _ (Below.refl _ _)
  · have hes := of_decide_eq_false hc
    refine J.skipTo (fun _ _ h => h) ?_
    refine J.seq ?_
    refine J.region ?_    -- region 3
    refine JL.val (Run.move rfl) ?_    -- s19 := move t0
    refine JL.val (Run.conv64 Yba.underlying3 ⟨_, Yba.underlying5⟩ rfl (by omega) (by omega)) ?_    -- s20 := conv 5>3 t19
    refine JL.val (Run.remN (b := 40) rfl rfl (by decide)) ?_    -- s21 := rem t20 c:40:i64
    refine JL.val (Run.add (c := ((nn % 40 + 1 : Nat) : Int)) rfl rfl (by omega) (by omega) (by omega)) ?_    -- s22 := add t21 c:1:i64
    refine JL.val (Run.assign rfl) ?_    -- s9 := assign t22
    refine JL.to (fun _ _ h => h) ?_
    refine J.seq ?_
    refine J.region ?_    -- region 4
    refine JL.val (Run.move rfl) ?_    -- s23 := move t1
    refine JL.val (Run.conv64 Yba.underlying3 ⟨_, Yba.underlying5⟩ rfl (by omega) (by omega)) ?_    -- s24 := conv 5>3 t23
    refine JL.val (Run.move rfl) ?_    -- s25 := move t9
    refine JL.val (Run.remN (b := nn % 40 + 1) rfl rfl (by omega)) ?_    -- s26 := rem t24 t25
    refine JL.val (Run.assign rfl) ?_    -- s10 := assign t26
    refine JL.to (fun _ _ h => h) ?_
    refine J.seq ?_
    refine J.region ?_    -- region 5
    refine JL.val (Run.move rfl) ?_    -- s27 := move t9
    refine JL.val (Run.move rfl) ?_    -- s28 := move t2
    refine JL.val (Run.move rfl) ?_    -- s29 := move t10
    refine JL.val (Run.move rfl) ?_    -- s30 := move t3
    refine JL.call rfl Yba.func5 rfl rfl ?_    -- s31 := CALL f5(t27, t28, t29, t30) [3,22,3,25]
    refine check_calls _ (nn % 40 + 1) (ff % (nn % 40 + 1)) _ _ es bs hv0 hwv0 (by omega) (by omega) (Nat.mod_lt _ (by omega)) (by omega) (by omega) _ ?_
    intro w' hb
    refine ⟨_, rfl, ?_⟩
    refine JL.val (Run.assign rfl) ?_    -- s8 := assign t31
    refine JL.to (fun _ _ h => h) ?_
    refine J.ret1 Yba.f4 R (fun _ _ h => h) rfl rfl ?_
    exact hR _ hb
end Go.Proofs.Ybulkpka
