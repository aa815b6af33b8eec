/-
  An append of a whole slice; slices.Clone.
-/
import Derived.Test.YbulkpguSlices
namespace Go.Fw
open Go.RowKit

/-- A slice that can be read: its cells, wherever they lie. -/
def Rd (w : World) (v : Value) (m : Nat) (ys : List Value) : Prop :=
  ∃ a c, v = .slice a m c ∧ (0 < m → ∃ b o, a = some ⟨b, o, none⟩ ∧ ∀ j u, ys[j]? = some u → w.cell? ⟨b, o + j, none⟩ = some u)

theorem Sl.rd {w0 w : World} {h : Hn} {n : Nat × Nat} {E len : Nat} {v : Value} {xs : List Value} (hs : Sl h n E 1 v len xs) (hp : Hp w0 w h) : Rd w v len xs := by
  obtain ⟨a, c, hv⟩ := hs.slice
  refine ⟨a, c, hv, fun hl => ?_⟩
  obtain ⟨g, cap, cur, hv', h1, h2, h3, h4⟩ := hs.addr hl
  rw [hv] at hv'
  cases hv'
  refine ⟨g, 0, rfl, fun j u hj => ?_⟩
  obtain ⟨g2, cap2, hv2, hc⟩ := hs.cell hp hj
  rw [hv] at hv2
  cases hv2
  rw [Nat.zero_add]
  exact hc

theorem appendR {P : Program} {w0 w : World} {h : Hn} {n : Nat × Nat} {T E bytes len m : Nat} {v v2 : Value} {xs ys : List Value} (hp : Hp w0 w h) (hE : Elt P T E 1 bytes) (hs : Sl h n E 1 v len xs) (hr : Rd w v2 m ys)
    (hl : ys.length = m) (h1 : ∀ u ∈ ys, u.oneCell' = true) (hnm : len + m ≤ 1000000000) (hby : bytes ≤ 100000) :
    ∃ v' w' h', (∀ ty, (Builtin.append_ #[T, T] ty #[v, v2]).run P w = .ok v' w') ∧ Hp w0 w' h' ∧ Sl h' n E 1 v' (len + m) (xs ++ ys) ∧ ∀ k, k ≠ n → h' k = h k := by
  obtain ⟨a, c, rfl, hcell⟩ := hr
  rcases Nat.eq_zero_or_pos m with h0 | h0
  · subst h0
    have hy : ys = [] := List.eq_nil_of_length_eq_zero hl
    subst hy
    obtain ⟨a', c', hv, hlc⟩ := hs.cap
    subst hv
    exact ⟨_, _, h, append0 hE hlc, hp, by simpa using hs, fun _ _ => rfl⟩
  · obtain ⟨b, o, rfl, hc⟩ := hcell h0
    obtain ⟨b', cap', w', cur', hrun, hp', hs'⟩ := Hp.append (P := P) (T := T) (ad := ⟨b, o, none⟩) (m := m) (c := c) (news := ys) hp hE hs (by omega) (fun j u hj => by rw [addr_add]; exact hc j u hj) h1 h0 hnm hby
    exact ⟨_, w', _, hrun, hp', hs', fun k hk => hup_ne hk⟩

end Go.Fw
namespace Go.Proofs.Ybulkpgu
open Go.Fw Go.RowKit
attribute [local simp] Go.Fw.stl_size Go.Fw.sto_size

theorem i32s_one (zs : List Int) : ∀ u ∈ i32s zs, u.oneCell' = true := by
  intro u hu
  obtain ⟨z, _, rfl⟩ := List.mem_map.1 hu
  rfl

theorem lit22 {w : World} : (Instr.buildSlice 22 0 #[]).run Yba.prog w = .ok (.slice (some ⟨w.heap.size, 0, none⟩) 0 0) (w.alloc (.cells #[] 21)) := by kernel_rfl

theorem Run.eqlNil {e : List (Nat × Value)} {w : World} {dst : Option Nat} {ty U : TypeId} {pos : String} {af : Array Edge} {g : Option (Nat × Bool)} {X Y : Operand} {a : Option Addr} {l c : Nat} (hx : ev e X = some (.slice a l c)) (hy : ev e Y = some (.slice none 0 0)) :
    Run Yba.prog e ⟨dst, .binOp .eql 22 X Y U, ty, pos, af, g⟩ w (.ok (.value (.bool a.isNone)) w) := by
  intro ρ hρ
  have h : (Op.equal 22 (.slice a l c) (.slice none 0 0)).run Yba.prog w = .ok a.isNone w := by
    have hd : ∀ d, (Op.equalIn (d + 1) 22 (.slice a l c) (.slice none 0 0)).run Yba.prog w = .ok a.isNone w := fun d => by
      cases a <;> simp [Op.equalIn, run_underlying Yba.underlying22]
    exact hd 9999
  simp [execOp, hρ _ _ hx, hρ _ _ hy, eqGuard, binOp, h]

set_option maxRecDepth 100000
theorem clone_calls {w0 w : World} {h : Hn} {n k : Nat × Nat} {v : Value} {zs : List Int} (hp : Hp w0 w h) (hx : Sl h n 21 1 v zs.length (i32s zs)) (hnk : n ≠ k) (hb : zs.length ≤ 100000000)
    (R : Ending → World → Prop) (hR : ∀ w' h' v', Hp w0 w' h' → Sl h' k 21 1 v' zs.length (i32s zs) → (∀ q, q ≠ k → h' q = h q) → R (.returned v') w') : Calls Yba.prog 20 #[v] w R := by
  obtain ⟨a, c, hv⟩ := hx.slice
  subst hv
  refine calls (args := [_]) (m := 1) Yba.func20 rfl rfl rfl (by decide) ?_
  refine J.seq ?_
  refine J.region ?_    -- region 0
  refine JL.val (Run.assign rfl) ?_
  refine JL.to (fun _ _ h => h) ?_
  refine J.seq ?_
  refine J.seq ?_
  refine J.region ?_    -- region 1
  refine JL.val (Run.move rfl) ?_
  refine JL.val (Run.eqlNil rfl rfl) ?_
  refine JL.to (fun _ _ h => h) ?_
  refine J.cond rfl (fun hc => ?_) (fun hc => ?_)
  · refine J.seq ?_
    refine J.region ?_    -- region 2
    refine JL.val (Run.assign rfl) ?_
    refine JL.to (fun _ _ h => h) ?_
    refine J.ret1 Yba.f20 R (fun _ _ h => h) rfl rfl ?_
    have ha : a = none := by simpa using hc
    subst ha
    have h0 : zs.length = 0 := by
      rcases hx.2 with ⟨h1, h2⟩ | ⟨g, cap, cur, h1, _⟩
      · exact h2
      · cases h1
    have hzs : zs = [] := List.eq_nil_of_length_eq_zero h0
    subst hzs
    exact hR w h _ hp (Sl.nil _ _ _ _) (fun _ _ => rfl)
  · refine J.skipTo (fun _ _ h => h) ?_
    have hp1 := hp.new k (cellsO [] 21)
    have hs1 : Sl (hup h k (some (w.heap.size, cellsO [] 21))) k 21 1 (.slice (some ⟨w.heap.size, 0, none⟩) 0 0) 0 [] := ⟨by simp, .inr ⟨_, 0, [], rfl, hup_same, by omega, by unfold maxLen; omega, by simp, by simp⟩⟩
    have hx1 : Sl (hup h k (some (w.heap.size, cellsO [] 21))) n 21 1 (.slice a zs.length c) zs.length (i32s zs) := hx.hup hnk
    obtain ⟨v', w', h', hrun, hp', hs', hf'⟩ := appendR (P := Yba.prog) (T := 22) hp1 el22 hs1 (hx1.rd hp1) (by simp) (i32s_one zs) (by omega) (by omega)
    refine J.seq ?_
    refine J.region ?_    -- region 3
    refine JL.val (Run.buildSlice rfl lit22) ?_
    refine JL.val (Run.move rfl) ?_
    refine JL.val (Run.append rfl rfl hrun) ?_
    refine JL.val (Run.assign rfl) ?_
    refine JL.to (fun _ _ h => h) ?_
    refine J.ret1 Yba.f20 R (fun _ _ h => h) rfl rfl ?_
    rw [Nat.zero_add, List.nil_append] at hs'
    exact hR w' h' v' hp' hs' (fun q hq => by rw [hf' q hq, hup_ne hq])
end Go.Proofs.Ybulkpgu
