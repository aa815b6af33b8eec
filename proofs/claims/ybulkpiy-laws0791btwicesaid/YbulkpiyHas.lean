/-
  zzs0791bhas: whether a host is among the hosts.
-/
import Derived.Test.YbulkpiyTys
namespace Go.Proofs.Ybulkpiy
open Go.Fw Go.RowKit
attribute [local simp] Go.Fw.stl_size

/-- A slice of bytes that can be read. -/
def U8s (w : World) (v : Value) (xs : List Nat) : Prop :=
  (∀ x ∈ xs, x < 256) ∧ ∃ a cap, v = .slice a xs.length cap ∧ ∀ i (x : Nat), xs[i]? = some x → ∃ b o, a = some ⟨b, o, none⟩ ∧ w.cell? ⟨b, o + i, none⟩ = some (.int .u8 (x : Int))

set_option maxRecDepth 100000
theorem has_calls (w : World) (v : Value) (xs : List Nat) (hv : U8s w v xs) (hl : xs.length ≤ 1000000) (h : Nat)
    (R : Ending → World → Prop) (hR : R (.returned (.bool (xs.any fun x => x % 16 == h))) w) : Calls Yba.prog 10 #[v, .int .i64 (h : Int)] w R := by
  obtain ⟨hb, a, cap, rfl, hc⟩ := hv
  refine calls (args := [_, _]) (m := 2) Yba.func10 rfl rfl rfl (by decide) ?_
  refine J.seq (J.region ?_)
  refine JL.val (Run.assign rfl) ?_
  refine JL.done ?_
  refine J.seq (J.seq (J.region ?_))
  refine JL.val (Run.move rfl) ?_
  refine JL.val (Run.len Yba.underlying23 rfl) ?_
  refine JL.val (Run.move rfl) ?_
  refine JL.done ?_
  refine J.block ?_
  refine J.loop (ι := Nat) (fun i => [(1, .int .i64 (h : Int)), (7, .slice a xs.length cap), (8, .int .i64 (xs.length : Int)), (9, .int .i64 (i : Int))])
    (fun i w' => w' = w ∧ i ≤ xs.length ∧ (xs.take i).any (fun x => x % 16 == h) = false) (fun i => xs.length - i) 0 ⟨rfl, rfl, rfl, rfl, trivial⟩ ⟨rfl, by omega, by simp⟩ ?_
  rintro i w' ⟨rfl, hi, hno⟩
  refine J.seq (J.region ?_)
  refine JL.val (Run.lss rfl rfl) ?_
  refine JL.done ?_
  refine J.seq ?_
  by_cases hlt : i < xs.length
  · refine J.condT rfl (by simp; omega) ?_
    refine J.skipThen ?_
    have hx : xs[i]? = some xs[i] := List.getElem?_eq_getElem hlt
    obtain ⟨b, o, rfl, hcell⟩ := hc i _ hx
    have hx256 : xs[i] < 256 := hb _ (List.getElem_mem hlt)
    have htake : xs.take (i + 1) = xs.take i ++ [xs[i]] := by rw [List.take_succ_eq_append_getElem hlt]
    generalize xs[i] = x at *
    refine J.seq (J.block (J.seq (J.region ?_)))
    refine JL.val (Run.index Yba.underlying23 c5 (by decide) rfl rfl hlt) ?_
    refine JL.val (Run.load t5 rfl (by rw [Nat.mul_one]; exact hcell)) ?_
    refine JL.val (Run.assign rfl) ?_
    refine JL.done ?_
    refine J.seq (J.region ?_)
    refine JL.val (Run.move rfl) ?_
    refine JL.val (Run.remN (b := 16) rfl rfl (by decide)) ?_
    refine JL.val (Run.conv64 Yba.underlying3 ⟨_, Yba.underlying5⟩ rfl (by omega) (by omega)) ?_
    refine JL.val (Run.move rfl) ?_
    refine JL.val (Run.eql rfl rfl) ?_
    refine JL.done ?_
    refine J.cond rfl (fun hc => ?_) (fun hc => ?_)
    · have hxh : x % 16 = h := by have := of_decide_eq_true hc; omega
      refine J.seq (J.region ?_)
      refine JL.val (Run.assign rfl) ?_
      refine JL.done ?_
      refine J.ret1 Yba.f10 R (fun _ _ h => h) rfl rfl ?_
      have : xs.any (fun x => x % 16 == h) = true := by
        simp only [List.any_eq_true, beq_iff_eq]
        exact ⟨x, List.mem_of_getElem? hx, hxh⟩
      rw [this] at hR
      exact hR
    · have hxh : ¬ x % 16 = h := by have := of_decide_eq_false hc; omega
      refine J.skip fun a ha => ?_
      refine (J.region ?_) a ha
      refine JL.val (Run.add (c := ((i + 1 : Nat) : Int)) rfl rfl (by omega) (by omega) (by omega)) ?_
      refine JL.val (Run.move rfl) ?_
      refine JL.nil fun a ha => ⟨i + 1, by omega, ha.sub ⟨rfl, rfl, rfl, rfl, trivial⟩, rfl, by omega, ?_⟩
      rw [htake, List.any_append, hno]
      simp [hxh]
  · have hil : i = xs.length := by omega
    refine J.condF rfl (by simp; omega) ?_
    refine J.exit fun a ha => ?_
    refine (J.seq (J.region ?_)) a ha
    refine JL.val (Run.assign rfl) ?_
    refine JL.done ?_
    refine J.ret1 Yba.f10 R (fun _ _ h => h) rfl rfl ?_
    rw [hil, List.take_length] at hno
    rw [hno] at hR
    exact hR
end Go.Proofs.Ybulkpiy
