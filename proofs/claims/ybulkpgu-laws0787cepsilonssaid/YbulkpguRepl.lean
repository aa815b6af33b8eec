/-
  slices.Insert at the end, slices.Replace of a tail.
-/
import Derived.Test.YbulkpguPair
namespace Go.Fw
open Go.RowKit
section
variable {P : Program} {e : List (Nat × Value)} {w : World} {dst : Option Nat} {ty : TypeId} {pos : String} {af : Array Edge} {g : Option (Nat × Bool)}
theorem Run.sliceLo {x y : Operand} {T E l c lo : Nat} {a : Option Addr} {kk : IntKind} (hT : P.underlying T = some (.slice E)) (hE : P.cellsOf E = 1) (hx : ev e x = some (.slice a l c)) (hy : ev e y = some (.int kk (lo : Int))) (hl : lo ≤ l) :
    Run P e ⟨dst, .slice T x (some y) none none, ty, pos, af, g⟩ w (.ok (.value (.slice (if c = lo then a else a.map (·.add lo)) (l - lo) (c - lo))) w) := by
  intro ρ hρ
  simp [execOp, hρ _ _ hx, hρ _ _ hy, Instr.sliceAt, Instr.slice, Instr.sliceBounds, Instr.sliceBound, asIntOf, run_underlying hT, run_sizeOf hE (by omega), hl]
theorem Run.sliceLH {x y z : Operand} {T E l c lo hi : Nat} {a : Option Addr} {kk kk' : IntKind} (hT : P.underlying T = some (.slice E)) (hE : P.cellsOf E = 1) (hx : ev e x = some (.slice a l c)) (hy : ev e y = some (.int kk (lo : Int))) (hz : ev e z = some (.int kk' (hi : Int))) (hl : lo ≤ hi) (hc : hi ≤ c) :
    Run P e ⟨dst, .slice T x (some y) (some z) none, ty, pos, af, g⟩ w (.ok (.value (.slice (if c = lo then a else a.map (·.add lo)) (hi - lo) (c - lo))) w) := by
  intro ρ hρ
  simp [execOp, hρ _ _ hx, hρ _ _ hy, hρ _ _ hz, Instr.sliceAt, Instr.slice, Instr.sliceBounds, Instr.sliceBound, asIntOf, run_underlying hT, run_sizeOf hE (by omega), hl, hc]
end

/-- The tail of a slice of the call's own. -/
theorem RdH.tail {h : Hn} {n : Nat × Nat} {a : Option Addr} {l c lo : Nat} {xs : List Value} (hs : Sl h n 21 1 (.slice a l c) l xs) (hlo : lo ≤ l) : RdH h n (.slice (if c = lo then a else a.map (·.add lo)) (l - lo) (c - lo)) (l - lo) (xs.drop lo) := by
  refine ⟨_, _, rfl, fun hm => ?_⟩
  obtain ⟨g, cap, cur, hv, h1, h2, h3, h4⟩ := hs.addr (by omega)
  cases hv
  rw [if_neg (by omega)]
  refine ⟨g, lo, cur, by simp [Option.map, addr_add], h1, fun j u hj => ?_⟩
  rw [← h4, Nat.mul_one, List.drop_take, List.getElem?_take] at hj
  split at hj
  · rw [List.getElem?_drop] at hj; exact hj
  · cases hj

theorem Sl.cut {h : Hn} {n : Nat × Nat} {a : Option Addr} {l c k : Nat} {xs : List Value} (hs : Sl h n 21 1 (.slice a l c) l xs) (hk : k ≤ l) : Sl h n 21 1 (.slice a k c) k (xs.take k) := by
  refine ⟨by rw [List.length_take, hs.1]; omega, ?_⟩
  rcases hs.2 with ⟨h1, h2⟩ | ⟨g, cap, cur, h1, h2, h3, h4, h5, h6⟩
  · cases h1
    have : k = 0 := by omega
    subst this
    exact .inl ⟨rfl, rfl⟩
  · cases h1
    exact .inr ⟨g, c, cur, rfl, h2, by omega, h4, h5, by rw [← h6, List.take_take]; congr 1; omega⟩
end Go.Fw
namespace Go.Proofs.Ybulkpgu
open Go.Fw Go.RowKit
attribute [local simp] Go.Fw.stl_size Go.Fw.sto_size

set_option maxRecDepth 100000
theorem insert_calls {w0 w : World} {h : Hn} {n : Nat × Nat} {v v2 : Value} {T E : List Int} (hp : Hp w0 w h) (hs : Sl h n 21 1 v T.length (i32s T)) (hr : Rd w v2 E.length (i32s E)) (hb : T.length + E.length ≤ 1000000)
    (R : Ending → World → Prop) (hR : ∀ w' h' v', Hp w0 w' h' → Sl h' n 21 1 v' (T.length + E.length) (i32s (T ++ E)) → (∀ k, k ≠ n → h' k = h k) → R (.returned v') w') :
    Calls Yba.prog 47 #[v, .int .i64 (T.length : Int), v2] w R := by
  obtain ⟨a, c, hv, hlc⟩ := hs.cap
  subst hv
  have hr0 := hr
  obtain ⟨a2, c2, hv2, _⟩ := hr
  subst hv2
  refine calls (args := [_, _, _]) (m := 3) Yba.func47 rfl rfl rfl (by decide) ?_
  refine J.seq ?_
  refine J.region ?_    -- region 0
  refine JL.val (Run.assign rfl) ?_
  refine JL.to (fun _ _ h => h) ?_
  refine J.seq ?_
  refine J.region ?_    -- region 1
  refine JL.val (Run.move rfl) ?_
  refine JL.val (Run.move rfl) ?_
  refine JL.val (Run.sliceLo Yba.underlying22 c21 rfl rfl (by omega)) ?_
  refine JL.to (fun _ _ h => h) ?_
  refine J.seq ?_
  refine J.region ?_    -- region 2
  refine JL.val (Run.move rfl) ?_
  refine JL.val (Run.len Yba.underlying22 rfl) ?_
  refine JL.val (Run.assign rfl) ?_
  refine JL.to (fun _ _ h => h) ?_
  refine J.seq ?_
  refine J.seq ?_
  refine J.region ?_    -- region 3
  refine JL.val (Run.move rfl) ?_
  refine JL.val (Run.eql rfl rfl) ?_
  refine JL.to (fun _ _ h => h) ?_
  refine J.cond rfl (fun hc => ?_) (fun hc => ?_)
  · have he0 : E = [] := List.eq_nil_of_length_eq_zero (by have := of_decide_eq_true hc; omega)
    subst he0
    refine J.seq ?_
    refine J.region ?_    -- region 4
    refine JL.val (Run.move rfl) ?_
    refine JL.val (Run.assign rfl) ?_
    refine JL.to (fun _ _ h => h) ?_
    refine J.ret1 Yba.f47 R (fun _ _ h => h) rfl rfl ?_
    exact hR w h _ hp (by simpa using hs) (fun _ _ => rfl)
  · refine J.skipTo (fun _ _ h => h) ?_
    obtain ⟨v5, w5, h5, hrun, hp5, hs5, hf5⟩ := appendR (P := Yba.prog) (T := 22) hp el22 hs hr0 (by simp) (i32s_one _) (by omega) (by omega)
    refine J.seq ?_
    refine J.region ?_    -- region 5
    refine JL.val (Run.move rfl) ?_
    refine JL.val (Run.len Yba.underlying22 rfl) ?_
    refine JL.val (Run.assign rfl) ?_
    refine JL.to (fun _ _ h => h) ?_
    refine J.seq ?_
    refine J.seq ?_
    refine J.region ?_    -- region 6
    refine JL.val (Run.move rfl) ?_
    refine JL.val (Run.move rfl) ?_
    refine JL.val (Run.eql rfl rfl) ?_
    refine JL.to (fun _ _ h => h) ?_
    refine J.condT rfl (by simp) ?_
    refine J.seq ?_
    refine J.region ?_    -- region 7
    refine JL.val (Run.move rfl) ?_
    refine JL.val (Run.move rfl) ?_
    refine JL.val (Run.append rfl rfl hrun) ?_
    refine JL.val (Run.assign rfl) ?_
    refine JL.to (fun _ _ h => h) ?_
    refine J.ret1 Yba.f47 R (fun _ _ h => h) rfl rfl ?_
    refine hR w5 h5 v5 hp5 ?_ hf5
    have e : i32s (T ++ E) = i32s T ++ i32s E := by simp
    rw [e]
    exact hs5

theorem replace_calls {w0 w : World} {h : Hn} {n : Nat × Nat} {v v2 : Value} {p : Nat} {T E : List Int} (hp : Hp w0 w h) (hs : Sl h n 21 1 v T.length (i32s T)) (hr : Rd w v2 E.length (i32s E)) (hpl : p ≤ T.length) (hge : T.length ≤ p + E.length) (hb : T.length + E.length ≤ 1000000)
    (R : Ending → World → Prop) (hR : ∀ w' h' v', Hp w0 w' h' → Sl h' n 21 1 v' (p + E.length) (i32s (T.take p ++ E)) → (∀ k, k ≠ n → h' k = h k) → R (.returned v') w') :
    Calls Yba.prog 30 #[v, .int .i64 (p : Int), .int .i64 (T.length : Int), v2] w R := by
  obtain ⟨a, c, hv, hlc⟩ := hs.cap
  subst hv
  have hr0 := hr
  obtain ⟨a2, c2, hv2, _⟩ := hr
  subst hv2
  refine calls (args := [_, _, _, _]) (m := 4) Yba.func30 rfl rfl rfl (by decide) ?_
  refine J.seq ?_
  refine J.region ?_    -- region 0
  refine JL.val (Run.assign rfl) ?_
  refine JL.to (fun _ _ h => h) ?_
  refine J.seq ?_
  refine J.region ?_    -- region 1
  refine JL.val (Run.move rfl) ?_
  refine JL.val (Run.move rfl) ?_
  refine JL.val (Run.move rfl) ?_
  refine JL.val (Run.sliceLH Yba.underlying22 c21 rfl rfl rfl hpl hlc) ?_
  refine JL.to (fun _ _ h => h) ?_
  refine J.seq ?_
  refine J.seq ?_
  refine J.region ?_    -- region 2
  refine JL.val (Run.move rfl) ?_
  refine JL.val (Run.move rfl) ?_
  refine JL.val (Run.eql rfl rfl) ?_
  refine JL.to (fun _ _ h => h) ?_
  refine J.cond rfl (fun hc => ?_) (fun hc => ?_)
  · have hpe : p = T.length := by have := of_decide_eq_true hc; omega
    subst hpe
    refine J.seq ?_
    refine J.region ?_    -- region 3
    refine JL.val (Run.move rfl) ?_
    refine JL.val (Run.move rfl) ?_
    refine JL.val (Run.move rfl) ?_
    refine JL.call rfl Yba.func47 rfl rfl ?_
    refine insert_calls hp hs hr0 hb _ ?_
    intro w5 h5 v5 hp5 hs5 hf5
    refine ⟨_, rfl, ?_⟩
    refine JL.val (Run.assign rfl) ?_
    refine JL.to (fun _ _ h => h) ?_
    refine J.ret1 Yba.f30 R (fun _ _ h => h) rfl rfl ?_
    exact hR w5 h5 v5 hp5 (by rw [List.take_length]; exact hs5) hf5
  · refine J.skipTo (fun _ _ h => h) ?_
    have hcut := hs.cut hpl
    rw [← List.map_take] at hcut
    have e0 : (i32s (T.take p)) = i32s (T.take p) := rfl
    obtain ⟨v5, w5, h5, hrun, hp5, hs5, hf5⟩ := appendR (P := Yba.prog) (T := 22) hp el22 hcut hr0 (by simp) (i32s_one _) (by omega) (by omega)
    obtain ⟨a5, c5, hv5⟩ := hs5.slice
    subst hv5
    refine J.seq ?_
    refine J.seq ?_
    refine J.region ?_    -- region 4
    refine JL.val (Run.move rfl) ?_
    refine JL.val (Run.move rfl) ?_
    refine JL.val (Run.len Yba.underlying22 rfl) ?_
    refine JL.val (Run.eql rfl rfl) ?_
    refine JL.to (fun _ _ h => h) ?_
    refine J.condT rfl (by simp) ?_
    refine J.seq ?_
    refine J.region ?_    -- region 5
    refine JL.val (Run.move rfl) ?_
    refine JL.val (Run.move rfl) ?_
    refine JL.val (Run.sliceHi (h := p) Yba.underlying22 c21 (by decide) rfl rfl (by omega)) ?_
    refine JL.val (Run.move rfl) ?_
    refine JL.val (Run.append rfl rfl hrun) ?_
    refine JL.val (Run.assign rfl) ?_
    refine JL.to (fun _ _ h => h) ?_
    refine J.seq ?_
    refine J.seq ?_
    refine J.region ?_    -- region 6
    refine JL.val (Run.move rfl) ?_
    refine JL.val (Run.len Yba.underlying22 rfl) ?_
    refine JL.val (Run.move rfl) ?_
    refine JL.val (Run.len Yba.underlying22 rfl) ?_
    refine JL.val (Run.lss rfl rfl) ?_
    refine JL.to (fun _ _ h => h) ?_
    refine J.condF rfl (decide_eq_false (by omega)) ?_
    refine J.skipTo (fun _ _ h => h) ?_
    refine J.seq ?_
    refine J.region ?_    -- region 8
    refine JL.val (Run.move rfl) ?_
    refine JL.val (Run.assign rfl) ?_
    refine JL.to (fun _ _ h => h) ?_
    refine J.ret1 Yba.f30 R (fun _ _ h => h) rfl rfl ?_
    refine hR w5 h5 _ hp5 ?_ hf5
    have e : i32s (T.take p ++ E) = i32s (T.take p) ++ i32s E := by simp
    rw [e]
    exact hs5
end Go.Proofs.Ybulkpgu
