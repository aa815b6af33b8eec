/-
  LawS0787CEpsilons, walked over what its arguments hold.
-/
import Derived.Test.YbulkpguLaw1
namespace Go.Proofs.Ybulkpgu
open Go.Fw Go.RowKit
attribute [local simp] Go.Fw.stl_size Go.Fw.sto_size

def sX (X : List Bool) (t : Nat) : Bool := X.getD (t - 1) false
def tsK (i : Nat) : List Nat := (List.range i).map (· + 1)
theorem tsK_succ (i : Nat) : tsK (i + 1) = tsK i ++ [i + 1] := by simp [tsK, List.range_succ]
theorem tsK_len (i : Nat) : (tsK i).length = i := by simp [tsK]
theorem tsK_mem {i t : Nat} (h : t ∈ tsK i) : 1 ≤ t ∧ t ≤ i := by
  obtain ⟨j, hj, rfl⟩ := List.mem_map.1 h
  have := List.mem_range.1 hj
  omega
theorem tsK_nodup (i : Nat) : (tsK i).Nodup := by
  unfold tsK
  rw [List.nodup_iff_pairwise_ne, List.pairwise_map]
  exact List.Pairwise.imp (fun h => by omega) (List.nodup_iff_pairwise_ne.1 List.nodup_range)

def sY (Y : List Bool) (t : Nat) : Bool := Y.getD t false

/-- The states of a, once i of XStar's entries are in. -/
structure XA (sts : List Sv) (X : List Bool) (tk : Bool) (i : Nat) : Prop where
  len : sts.length = i + 1
  s0 : sts[0]? = some sv0
  st : ∀ (j : Nat) (x : Bool), j < i → X[j]? = some x → ∃ s, sts[j + 1]? = some s ∧ s.star = x ∧ (x = true → s.indeg = if tk then 2 else 0)

/-- The states of b, once i of YStar's entries are in. -/
structure YB (sts : List Sv) (Y : List Bool) (i : Nat) : Prop where
  len : sts.length = i
  st : ∀ (j : Nat) (x : Bool), j < i → Y[j]? = some x → ∃ s, sts[j]? = some s ∧ s.star = x

theorem build60 {w : World} {a b m : Nat} : (Instr.build 60 #[(0, ptr a), (1, ptr b), (2, .map (some m))]).run Yba.prog w = .ok (.agg #[ptr a, ptr b, .map (some m), nil0, nil0, nil0, nil0, nil0, nil0]) w := by kernel_rfl

theorem LsE.empty {h : Hn} {t vb : Nat} (hv : h (t, 0) = some (vb, cellsO [.slice none 0 0, .int .i32 0, .int .i32 0] 44)) : LsE h t vb [] :=
  ⟨.slice none 0 0, [], ⟨hv, Sl.nil _ _ _ _, fun k rv hk => by simp at hk, fun i s hs => by simp at hs, by simp⟩, by simp⟩

set_option maxRecDepth 100000
theorem law_calls (w : World) (xv yv : Value) (X Y : List Bool) (mode : Nat) (tk : Bool) (hX : Bls w xv X) (hY : Bls w yv Y) (_hmode : mode < 256) :
    Calls Yba.prog 6 #[xv, yv, .int .u8 (mode : Int), .bool tk] w fun e w' => e = .returned (.bool true) ∧ Below w.heap.size w w' := by
  generalize hRR : (fun (e : Ending) (w' : World) => e = .returned (.bool true) ∧ Below w.heap.size w w') = R
  have hR : ∀ w', Below w.heap.size w w' → R (.returned (.bool true)) w' := fun w' h => by rw [← hRR]; exact ⟨rfl, h⟩
  clear hRR
  obtain ⟨xa, xc, rfl, hXc⟩ := hX
  obtain ⟨ya, yc, rfl, hYc⟩ := hY
  refine calls (args := [_, _, _, _]) (m := 4) Yba.func6 rfl rfl rfl (by decide) ?_
  refine J.seq ?_
  refine J.region ?_    -- region 0
  refine JL.val (Run.assign rfl) ?_
  refine JL.to (fun _ _ h => h) ?_
  refine J.seq ?_
  refine J.mid (ι := Unit) (fun _ => [(0, .slice xa X.length xc), (1, .slice ya Y.length yc), (2, .int .u8 (mode : Int)), (3, .bool tk), (60, .bool (decide (300 < X.length ∨ 300 < Y.length)))]) (fun _ w' => w' = w) ?_ ?_
  · refine J.region ?_    -- region 1
    refine JL.val (Run.move rfl) ?_
    refine JL.val (Run.len Yba.underlying39 rfl) ?_
    by_cases h1 : 300 < X.length
    · refine JL.val ((Run.gtr rfl rfl).to (bt (by omega))) ?_
      refine JL.val (Run.move rfl) ?_
      refine JL.gskip rfl rfl ?_
      refine JL.gskip rfl rfl ?_
      refine JL.gskip rfl rfl ?_
      refine JL.val ((Run.pickT rfl rfl).to (v' := .bool (decide (300 < X.length ∨ 300 < Y.length))) (by simp [h1])) ?_
      refine JL.nil fun a ha => ⟨(), ha.sub ⟨rfl, rfl, rfl, rfl, rfl, trivial⟩, rfl⟩
    · refine JL.val ((Run.gtr rfl rfl).to (bf (by omega))) ?_
      refine JL.val (Run.move rfl) ?_
      refine JL.gval rfl rfl (Run.move rfl) ?_
      refine JL.gval rfl rfl (Run.len Yba.underlying39 rfl) ?_
      refine JL.gval rfl rfl (Run.gtr rfl rfl) ?_
      refine JL.val ((Run.pickF rfl rfl).to (v' := .bool (decide (300 < X.length ∨ 300 < Y.length))) (bd (decide_eq_decide.2 (by omega)))) ?_
      refine JL.nil fun a ha => ⟨(), ha.sub ⟨rfl, rfl, rfl, rfl, rfl, trivial⟩, rfl⟩
  rintro _ _ rfl
  refine J.cond rfl (fun hc => ?_) (fun hc => ?_)    -- if t60
  · refine J.seq ?_
    refine J.region ?_    -- region 2
    refine JL.val (Run.assign rfl) ?_
    refine JL.to (fun _ _ h => h) ?_
    refine J.ret1 Yba.f6 R (fun _ _ h => h) rfl rfl ?_
    exact hR _ (Below.refl _ _)
  have hXY := of_decide_eq_false hc
  clear hc
  rename_i w
  refine J.skipTo (fun _ _ h => h) ?_
  refine J.seq ?_
  refine J.region ?_    -- region 3
  refine JL.val (Run.move rfl) ?_
  refine JL.val (Run.remN (b := 3) rfl rfl (by decide)) ?_
  refine JL.val (Run.conv64 Yba.underlying3 ⟨_, Yba.underlying5⟩ rfl (by omega) (by omega)) ?_
  refine JL.val (Run.assign rfl) ?_
  refine JL.to (fun _ _ h => h) ?_
  have hmd3 : mode % 3 < 3 := Nat.mod_lt _ (by decide)
  generalize mode % 3 = md at *
  -- the two automata
  refine J.seq ?_
  refine J.region ?_    -- region 4
  refine JL.val (Run.alloc (l := [.slice none 0 0, .int .i32 0, .int .i32 0]) z44 rfl) ?_
  refine JL.val (Run.alloc (l := [.slice none 0 0, .int .i32 0, .int .i32 0]) z44 rfl) ?_
  refine JL.to (fun _ _ h => h) ?_
  have hp1 := ((Hp.init w).new (1, 0) (cellsO [.slice none 0 0, .int .i32 0, .int .i32 0] 44)).new (4, 0) (cellsO [.slice none 0 0, .int .i32 0, .int .i32 0] 44)
  generalize hva : w.heap.size = va at hp1 ⊢
  generalize hvb : (w.alloc (cellsO [.slice none 0 0, .int .i32 0, .int .i32 0] 44)).heap.size = vb at hp1 ⊢
  have hA1 : LsE (hup (hup (fun _ => none) (1, 0) (some (va, cellsO [.slice none 0 0, .int .i32 0, .int .i32 0] 44))) (4, 0) (some (vb, cellsO [.slice none 0 0, .int .i32 0, .int .i32 0] 44))) 1 va [] := LsE.empty (by rw [hup_ne (by simp)]; exact hup_same)
  have hB1 : LsE (hup (hup (fun _ => none) (1, 0) (some (va, cellsO [.slice none 0 0, .int .i32 0, .int .i32 0] 44))) (4, 0) (some (vb, cellsO [.slice none 0 0, .int .i32 0, .int .i32 0] 44))) 4 vb [] := LsE.empty hup_same
  generalize hup (hup (fun _ => none) (1, 0) (some (va, cellsO [.slice none 0 0, .int .i32 0, .int .i32 0] 44))) (4, 0) (some (vb, cellsO [.slice none 0 0, .int .i32 0, .int .i32 0] 44)) = h1 at *
  generalize (w.alloc (cellsO [.slice none 0 0, .int .i32 0, .int .i32 0] 44)).alloc (cellsO [.slice none 0 0, .int .i32 0, .int .i32 0] 44) = w1 at *
  clear hva hvb
  refine J.seq ?_
  refine J.region ?_    -- region 5
  refine JL.val (Run.field fl44_0 rfl) ?_
  refine JL.val (Run.build rfl build48) ?_
  refine JL.call rfl Yba.func16 rfl rfl ?_
  refine add_calls (by omega) hp1 hA1 (by simp) _ ?_
  intro w2 h2 hp2 hA2 hf2
  refine ⟨_, rfl, ?_⟩
  refine JL.val (Run.assign rfl) ?_
  refine JL.to (fun _ _ h => h) ?_
  have hB2 : LsE h2 4 vb [] := hB1.keep fun n hn => hf2 n (by omega) (by omega) (by omega)
  refine J.seq ?_
  refine J.region ?_    -- region 6
  refine JL.val (Run.assign rfl) ?_
  refine JL.val (Run.assign rfl) ?_
  refine JL.val (Run.assign rfl) ?_
  refine JL.to (fun _ _ h => h) ?_
  refine J.seq ?_
  refine J.seq ?_
  refine J.region ?_    -- region 7
  refine JL.val (Run.move rfl) ?_
  refine JL.val (Run.len Yba.underlying39 rfl) ?_
  refine JL.val (Run.move rfl) ?_
  refine JL.to (fun _ _ h => h) ?_
  refine J.block ?_
  refine J.loop (ι := Nat × Hn × List Sv × Value × Value × Value)
    (fun i => [(1, .slice ya Y.length yc), (3, .bool tk), (9, .int .i64 (md : Int)), (10, ptr va), (11, ptr vb), (12, .int .i32 0), (13, i.2.2.2.1), (14, i.2.2.2.2.1), (15, i.2.2.2.2.2), (67, .slice xa X.length xc), (68, .int .i64 (X.length : Int)), (69, .int .i64 (i.1 : Int))])
    (fun i w' => i.1 ≤ X.length ∧ Hp w w' i.2.1 ∧ LsE i.2.1 1 va i.2.2.1 ∧ LsE i.2.1 4 vb [] ∧ XA i.2.2.1 X tk i.1 ∧ Sl i.2.1 (20, 0) 21 1 i.2.2.2.1 i.1 (i32s (nI (tsK i.1))) ∧
      Sl i.2.1 (24, 0) 21 1 i.2.2.2.2.1 ((tsK i.1).filter fun t => !sX X t).length (i32s (nI ((tsK i.1).filter fun t => !sX X t))) ∧ Sl i.2.1 (25, 0) 21 1 i.2.2.2.2.2 ((tsK i.1).filter (sX X)).length (i32s (nI ((tsK i.1).filter (sX X)))))
    (fun i => X.length - i.1) (0, h2, [sv0], .slice none 0 0, .slice none 0 0, .slice none 0 0) ⟨rfl, rfl, rfl, rfl, rfl, rfl, rfl, rfl, rfl, rfl, rfl, rfl, trivial⟩
    ⟨by omega, hp2, hA2, hB2, ⟨rfl, rfl, fun j x hj => by omega⟩, Sl.nil _ _ _ _, Sl.nil _ _ _ _, Sl.nil _ _ _ _⟩ ?_
  clear hp1 hA1 hB1 hp2 hA2 hB2 hf2
  clear h1 h2 w1
  rintro ⟨i, h2, sts, e13, e14, e15⟩ w2 ⟨hi, hp2, hA2, hB2, hxa, hs20, hs24, hs25⟩
  simp only at hi hp2 hA2 hB2 hxa hs20 hs24 hs25 ⊢
  refine J.seq ?_
  refine J.region ?_    -- region 8
  refine JL.val (Run.lss rfl rfl) ?_
  refine JL.to (fun _ _ h => h) ?_
  refine J.seq ?_
  refine J.cond rfl (fun hc => ?_) (fun hc => ?_)
  · have hil : i < X.length := by have := of_decide_eq_true hc; omega
    clear hc
    obtain ⟨x, hx⟩ : ∃ x, X[i]? = some x := ⟨X[i], List.getElem?_eq_getElem hil⟩
    obtain ⟨xb, xo, hxe, hxcell⟩ := hXc i x hx
    subst hxe
    have hxcell2 := hp2.bel.cell1 hxcell
    have hsx : sX X (i + 1) = x := by simp [sX, List.getD, hx]
    have hlen := hxa.len
    have hfl1 : ((tsK i).filter fun t => !sX X t).length ≤ i := by have := List.length_filter_le (fun t => !sX X t) (tsK i); rw [tsK_len] at this; exact this
    have hfl2 : ((tsK i).filter (sX X)).length ≤ i := by have := List.length_filter_le (sX X) (tsK i); rw [tsK_len] at this; exact this
    refine J.skipTo (fun _ _ h => h) ?_
    refine J.seq ?_
    refine J.block ?_
    refine J.seq ?_
    refine J.region ?_    -- region 9
    refine JL.val (Run.index Yba.underlying39 c4 (by decide) rfl rfl hil) ?_
    refine JL.val (Run.load t4 rfl (by rw [Nat.mul_one]; exact hxcell2)) ?_
    refine JL.val (Run.assign rfl) ?_
    refine JL.to (fun _ _ h => h) ?_
    refine J.seq ?_
    refine J.region ?_    -- region 10
    refine JL.val (Run.field fl44_0 rfl) ?_
    refine JL.val (Run.move rfl) ?_
    refine JL.call rfl Yba.func17 rfl rfl ?_
    refine state_calls (by omega) x hp2 hA2 (by omega) _ ?_
    intro w3 h3 ed hp3 hA3 hf3
    rw [hlen]
    refine ⟨_, rfl, ?_⟩
    refine JL.val (Run.assign rfl) ?_
    refine JL.to (fun _ _ h => h) ?_
    have hB3 : LsE h3 4 vb [] := hB2.keep fun n hn => hf3 n (by omega) (by omega) (by omega) (by omega)
    have hs20' := hs20.keep (hf3 _ (by simp) (by simp) (by simp) (by simp))
    have hs24' := hs24.keep (hf3 _ (by simp) (by simp) (by simp) (by simp))
    have hs25' := hs25.keep (hf3 _ (by simp) (by simp) (by simp) (by simp))
    have hst3 : (sts ++ [stOf x ed])[i + 1]? = some (stOf x ed) := by rw [List.getElem?_append_right (by omega), hlen]; simp
    have hxa3 : ∀ (st' : List Sv), st'.length = i + 2 → (∀ q, q < i + 1 → st'[q]? = sts[q]?) → (∃ s, st'[i + 1]? = some s ∧ s.star = x ∧ (x = true → s.indeg = if tk then 2 else 0)) → XA st' X tk (i + 1) := fun st' h1 h2 h3 => by
      refine ⟨h1, by rw [h2 0 (by omega)]; exact hxa.s0, fun j y hj hy => ?_⟩
      rcases Nat.lt_or_ge j i with hji | hji
      · rw [h2 (j + 1) (by omega)]
        exact hxa.st j y hji hy
      · have : j = i := by omega
        subst this
        rw [hx] at hy
        cases hy
        exact h3
    refine J.mid (ι := Hn × List Sv × Value × Value)
      (fun q => [(1, .slice ya Y.length yc), (3, .bool tk), (9, .int .i64 (md : Int)), (10, ptr va), (11, ptr vb), (12, .int .i32 0), (13, e13), (14, q.2.2.1), (15, q.2.2.2), (18, .int .i32 ((i + 1 : Nat) : Int)), (67, .slice (some ⟨xb, xo, none⟩) X.length xc), (68, .int .i64 (X.length : Int)), (69, .int .i64 (i : Int))])
      (fun q w' => Hp w w' q.1 ∧ LsE q.1 1 va q.2.1 ∧ LsE q.1 4 vb [] ∧ XA q.2.1 X tk (i + 1) ∧ Sl q.1 (20, 0) 21 1 e13 i (i32s (nI (tsK i))) ∧
        Sl q.1 (24, 0) 21 1 q.2.2.1 ((tsK (i + 1)).filter fun t => !sX X t).length (i32s (nI ((tsK (i + 1)).filter fun t => !sX X t))) ∧ Sl q.1 (25, 0) 21 1 q.2.2.2 ((tsK (i + 1)).filter (sX X)).length (i32s (nI ((tsK (i + 1)).filter (sX X))))) ?_ ?_
    · refine J.seq ?_
      refine J.region ?_    -- region 11
      refine JL.val (Run.move rfl) ?_
      refine JL.to (fun _ _ h => h) ?_
      cases x with
      | true =>
        have e1 : ((tsK (i + 1)).filter fun t => !sX X t) = (tsK i).filter fun t => !sX X t := by rw [tsK_succ, List.filter_append]; simp [hsx]
        have e2 : (tsK (i + 1)).filter (sX X) = (tsK i).filter (sX X) ++ [i + 1] := by rw [tsK_succ, List.filter_append]; simp [hsx]
        have e3 : nI ((tsK i).filter (sX X) ++ [i + 1]) = nI ((tsK i).filter (sX X)) ++ [((i + 1 : Nat) : Int)] := by simp [nI]
        obtain ⟨b5, c5, w5, h5, hrun, hp5, hs5, hf5⟩ := push1 hp3 hs25' ((i + 1 : Nat) : Int) (by omega)
        rw [← e3, ← e2] at hs5
        have hl5 : ((tsK i).filter (sX X)).length + 1 = ((tsK (i + 1)).filter (sX X)).length := by rw [e2, List.length_append, List.length_singleton]
        rw [hl5] at hs5 hrun
        have hA5 : LsE h5 1 va (sts ++ [stOf true ed]) := hA3.keep fun n hn => hf5 n (fun e => by subst e; simp at hn)
        have hB5 : LsE h5 4 vb [] := hB3.keep fun n hn => hf5 n (fun e => by subst e; simp at hn)
        refine J.condT rfl rfl ?_
        refine J.seq ?_
        refine J.region ?_    -- region 12
        refine JL.val (Run.move rfl) ?_
        refine JL.val (Run.move rfl) ?_
        refine JL.val (Run.buildSlice rfl (buildSlice1 el22 rfl)) ?_
        refine JL.val (Run.append rfl rfl hrun) ?_
        refine JL.val (Run.assign rfl) ?_
        refine JL.to (fun _ _ h => h) ?_
        refine J.seq ?_
        refine J.region ?_    -- region 13
        refine JL.val (Run.move rfl) ?_
        refine JL.to (fun _ _ h => h) ?_
        cases tk with
        | false =>
          refine J.condF rfl rfl ?_
          refine J.skip fun a ha => ⟨(h5, sts ++ [stOf true ed], e14, .slice (some ⟨b5, 0, none⟩) ((tsK (i + 1)).filter (sX X)).length c5), ha.sub ⟨rfl, rfl, rfl, rfl, rfl, rfl, rfl, rfl, rfl, rfl, rfl, rfl, rfl, trivial⟩, hp5, hA5, hB5, hxa3 _ (by simp [hlen]) (fun q hq => by rw [List.getElem?_append_left (by omega)]) ⟨_, hst3, rfl, fun _ => rfl⟩, hs20'.keep (hf5 _ (by simp)), by simp only; rw [e1]; exact hs24'.keep (hf5 _ (by simp)), hs5⟩
        | true =>
          refine J.condT rfl rfl ?_
          refine J.region ?_    -- region 14
          refine JL.val (Run.field fl44_0 rfl) ?_
          refine JL.val (Run.move rfl) ?_
          refine JL.call rfl Yba.func18 rfl rfl ?_
          refine at_calls hp5 hA5 hst3 _ ?_
          intro rb cur hat
          refine ⟨_, rfl, ?_⟩
          obtain ⟨ov, rows, hl6, hrn⟩ := hA5
          have hll : (sts ++ [stOf true ed]).length = i + 2 := by simp [hlen]
          obtain ⟨hlt7, hp7, hl7, hat7⟩ := hl6.set (j := 3) (u := .int .i32 2) (s' := ⟨true, ed, .slice none 0 0, 2, 0⟩) hp5 (by omega) hst3 hat (by omega) rfl (hl6.edg (i + 1) (stOf true ed) hst3)
          have hk7 : ∀ n : Nat × Nat, n.1 ≠ 2 → hup h5 (1 + 1, (i + 1) / 16384) (some (rb, cellsO (cur.set ((i + 1) % 16384 * 5 + 3) (.int .i32 2)) 48)) n = h5 n := fun n hn => hup_ne (fun e => by subst e; simp at hn)
          refine JL.val (Run.nil rfl) ?_
          refine JL.val (Run.field fl48_3 rfl) ?_
          refine JL.eff (Run.store c21 rfl rfl rfl (hp5.blk hat.blk) hlt7) ?_
          have hxa7 : XA ((sts ++ [stOf true ed]).set (i + 1) ⟨true, ed, .slice none 0 0, 2, 0⟩) X true (i + 1) := hxa3 _ (by rw [List.length_set]; exact hll) (fun q hq => by rw [List.getElem?_set_ne (by omega), List.getElem?_append_left (by omega)]) ⟨_, List.getElem?_set_self (by omega), rfl, fun _ => rfl⟩
          have hA7 : LsE (hup h5 (1 + 1, (i + 1) / 16384) (some (rb, cellsO (cur.set ((i + 1) % 16384 * 5 + 3) (.int .i32 2)) 48))) 1 va ((sts ++ [stOf true ed]).set (i + 1) ⟨true, ed, .slice none 0 0, 2, 0⟩) := ⟨ov, rows, hl7, by rw [List.length_set]; exact hrn⟩
          generalize hup h5 (1 + 1, (i + 1) / 16384) (some (rb, cellsO (cur.set ((i + 1) % 16384 * 5 + 3) (.int .i32 2)) 48)) = h7 at *
          refine JL.nil fun a ha => ⟨(h7, _, e14, .slice (some ⟨b5, 0, none⟩) ((tsK (i + 1)).filter (sX X)).length c5), ha.sub ⟨rfl, rfl, rfl, rfl, rfl, rfl, rfl, rfl, rfl, rfl, rfl, rfl, rfl, trivial⟩, hp7, hA7, hB5.keep fun n hn => hk7 n (by omega), hxa7, (hs20'.keep (hf5 _ (by simp))).keep (hk7 _ (by simp)), by simp only; rw [e1]; exact (hs24'.keep (hf5 _ (by simp))).keep (hk7 _ (by simp)), hs5.keep (hk7 _ (by simp))⟩
      | false =>
        have e1 : ((tsK (i + 1)).filter fun t => !sX X t) = ((tsK i).filter fun t => !sX X t) ++ [i + 1] := by rw [tsK_succ, List.filter_append]; simp [hsx]
        have e2 : (tsK (i + 1)).filter (sX X) = (tsK i).filter (sX X) := by rw [tsK_succ, List.filter_append]; simp [hsx]
        have e3 : nI (((tsK i).filter fun t => !sX X t) ++ [i + 1]) = nI ((tsK i).filter fun t => !sX X t) ++ [((i + 1 : Nat) : Int)] := by simp [nI]
        obtain ⟨b5, c5, w5, h5, hrun, hp5, hs5, hf5⟩ := push1 hp3 hs24' ((i + 1 : Nat) : Int) (by omega)
        rw [← e3, ← e1] at hs5
        have hl5 : ((tsK i).filter fun t => !sX X t).length + 1 = ((tsK (i + 1)).filter fun t => !sX X t).length := by rw [e1, List.length_append, List.length_singleton]
        rw [hl5] at hs5 hrun
        refine J.condF rfl rfl ?_
        refine J.region ?_    -- region 15
        refine JL.val (Run.move rfl) ?_
        refine JL.val (Run.move rfl) ?_
        refine JL.val (Run.buildSlice rfl (buildSlice1 el22 rfl)) ?_
        refine JL.val (Run.append rfl rfl hrun) ?_
        refine JL.val (Run.assign rfl) ?_
        refine JL.nil fun a ha => ⟨(h5, sts ++ [stOf false ed], .slice (some ⟨b5, 0, none⟩) ((tsK (i + 1)).filter fun t => !sX X t).length c5, e15), ha.sub ⟨rfl, rfl, rfl, rfl, rfl, rfl, rfl, rfl, rfl, rfl, rfl, rfl, rfl, trivial⟩, hp5, hA3.keep fun n hn => hf5 n (fun e => by subst e; simp at hn), hB3.keep fun n hn => hf5 n (fun e => by subst e; simp at hn), hxa3 _ (by simp [hlen]) (fun q hq => by rw [List.getElem?_append_left (by omega)]) ⟨_, hst3, rfl, fun h => by cases h⟩, hs20'.keep (hf5 _ (by simp)), hs5, by simp only; rw [e2]; exact hs25'.keep (hf5 _ (by simp))⟩
    · rintro ⟨h4, sts4, f14, f15⟩ w4 ⟨hp4, hA4, hB4, hxa4, hs20, hs24, hs25⟩
      simp only at hp4 hA4 hB4 hxa4 hs20 hs24 hs25 ⊢
      obtain ⟨b5, c5, w5, h5, hrun, hp5, hs5, hf5⟩ := push1 hp4 hs20 ((i + 1 : Nat) : Int) (by omega)
      have e3 : nI (tsK (i + 1)) = nI (tsK i) ++ [((i + 1 : Nat) : Int)] := by rw [tsK_succ]; simp [nI]
      rw [← e3] at hs5
      refine J.region ?_    -- region 16
      refine JL.val (Run.move rfl) ?_
      refine JL.val (Run.move rfl) ?_
      refine JL.val (Run.buildSlice rfl (buildSlice1 el22 rfl)) ?_
      refine JL.val (Run.append rfl rfl hrun) ?_
      refine JL.val (Run.assign rfl) ?_
      refine JL.to (fun _ _ h => h) ?_
      refine J.region ?_    -- region 17
      refine JL.val (Run.add (c := ((i + 1 : Nat) : Int)) rfl rfl (by omega) (by omega) (by omega)) ?_
      refine JL.val (Run.move rfl) ?_
      refine JL.nil fun a ha => ⟨(i + 1, h5, sts4, .slice (some ⟨b5, 0, none⟩) (i + 1) c5, f14, f15), by simp only; omega, ha.sub ⟨rfl, rfl, rfl, rfl, rfl, rfl, rfl, rfl, rfl, rfl, rfl, rfl, trivial⟩, by simp only; omega, hp5, hA4.keep fun n hn => hf5 n (fun e => by subst e; simp at hn), hB4.keep fun n hn => hf5 n (fun e => by subst e; simp at hn), hxa4, hs5, hs24.keep (hf5 _ (by simp)), hs25.keep (hf5 _ (by simp))⟩
  have hil : i = X.length := by have := of_decide_eq_false hc; omega
  subst hil
  clear hc hi
  refine J.exitTo (fun _ _ h => h) ?_    -- exit 0
  have hlen := hxa.len
  have hsx0 := hxa.s0
  refine J.seq ?_
  refine J.region ?_    -- region 18
  refine JL.val (Run.field fl44_0 rfl) ?_
  refine JL.val (Run.move rfl) ?_
  refine JL.call rfl Yba.func18 rfl rfl ?_
  refine at_calls (i := 0) hp2 hA2 hsx0 _ ?_
  intro rb cur hat
  refine ⟨_, rfl, ?_⟩
  obtain ⟨ov, rows, hl2, hrn⟩ := hA2
  obtain ⟨hlt3, hp3, hl3, hat3⟩ := hl2.set (i := 0) (j := 1) (u := e13) (s' := ⟨false, .slice none 0 0, e13, 0, 0⟩) hp2 (by omega) hsx0 hat (by omega) rfl (.inl ⟨rfl, rfl⟩)
  have hA3 : LsE (hup h2 (1 + 1, 0 / 16384) (some (rb, cellsO (cur.set (0 % 16384 * 5 + 1) e13) 48))) 1 va (sts.set 0 ⟨false, .slice none 0 0, e13, 0, 0⟩) := ⟨ov, rows, hl3, by rw [List.length_set]; exact hrn⟩
  have hk3 : ∀ n : Nat × Nat, n.1 ≠ 2 → hup h2 (1 + 1, 0 / 16384) (some (rb, cellsO (cur.set (0 % 16384 * 5 + 1) e13) 48)) n = h2 n := fun n hn => hup_ne (fun e => by subst e; simp at hn)
  refine JL.val (Run.move rfl) ?_
  refine JL.val (Run.nil rfl) ?_
  refine JL.val (Run.field fl48_1 rfl) ?_
  refine JL.eff (Run.store c22 rfl rfl hs20.one (hp2.blk hat.blk) hlt3) ?_
  refine JL.to (fun _ _ h => h) ?_
  generalize hup h2 (1 + 1, 0 / 16384) (some (rb, cellsO (cur.set (0 % 16384 * 5 + 1) e13) 48)) = h3 at *
  generalize Fw.stl w2 rb (cur.set (0 % 16384 * 5 + 1) e13) = w3 at *
  have hB3 : LsE h3 4 vb [] := hB2.keep fun n hn => hk3 n (by omega)
  have hs20 := hs20.keep (hk3 _ (by simp))
  have hs24 := hs24.keep (hk3 _ (by simp))
  have hs25 := hs25.keep (hk3 _ (by simp))
  clear hl2 hl3 hat hat3 hp2 hB2 hk3 hrn hlt3
  -- the pair
  refine J.seq ?_
  refine J.region ?_    -- region 19
  refine JL.val (Run.build rfl build54) ?_
  refine JL.val (Run.alloc (l := [.int .i32 0, .int .i32 0]) z54 rfl) ?_
  refine JL.eff (Run.storeNew (cs := [.int .i32 (-1), .int .i32 0]) c54 (by simp) rfl rfl (by simp [Value.oneCell']) rfl) ?_
  refine JL.to (fun _ _ h => h) ?_
  have hp4 := hp3.new (34, 0) (cellsO [.int .i32 (-1), .int .i32 0] 54)
  have hk4 : ∀ n : Nat × Nat, n.1 ≠ 34 → hup h3 (34, 0) (some (w3.heap.size, cellsO [.int .i32 (-1), .int .i32 0] 54)) n = h3 n := fun n hn => hup_ne (fun e => by subst e; simp at hn)
  have hpb : hup h3 (34, 0) (some (w3.heap.size, cellsO [.int .i32 (-1), .int .i32 0] 54)) (34, 0) = some (w3.heap.size, cellsO [.int .i32 (-1), .int .i32 0] 54) := hup_same
  generalize hup h3 (34, 0) (some (w3.heap.size, cellsO [.int .i32 (-1), .int .i32 0] 54)) = h4 at *
  generalize w3.alloc (cellsO [.int .i32 (-1), .int .i32 0] 54) = w4 at *
  generalize w3.heap.size = pb at *
  have hA4 : LsE h4 1 va (sts.set 0 ⟨false, .slice none 0 0, e13, 0, 0⟩) := hA3.keep fun n hn => hk4 n (by omega)
  have hB4 : LsE h4 4 vb [] := hB3.keep fun n hn => hk4 n (by omega)
  have hs20 := hs20.keep (hk4 _ (by simp))
  have hs24 := hs24.keep (hk4 _ (by simp))
  have hs25 := hs25.keep (hk4 _ (by simp))
  refine J.seq ?_
  refine J.region ?_    -- region 20
  refine JL.val (Run.move rfl) ?_
  refine JL.val (Run.assign rfl) ?_
  refine JL.to (fun _ _ h => h) ?_
  -- s
  refine J.mid (ι := Hn × List Sv × Nat)
    (fun q => [(1, .slice ya Y.length yc), (3, .bool tk), (9, .int .i64 (md : Int)), (10, ptr va), (11, ptr vb), (12, .int .i32 0), (14, e14), (15, e15), (19, ptr pb), (20, .int .i32 (q.2.2 : Int))])
    (fun q w' => Hp w w' q.1 ∧ LsE q.1 1 va q.2.1 ∧ (∀ n : Nat × Nat, n.1 ≠ 1 → n.1 ≠ 2 → n.1 ≠ 99 → q.1 n = h4 n) ∧
      ((md = 2 ∧ q.2.2 = 0 ∧ q.2.1 = sts.set 0 ⟨false, .slice none 0 0, e13, 0, 0⟩) ∨ (md ≠ 2 ∧ q.2.2 = X.length + 1 ∧ q.2.1 = sts.set 0 ⟨false, .slice none 0 0, e13, 0, 0⟩ ++ [sv0]))) ?_ ?_
  · refine J.seq ?_
    refine J.region ?_    -- region 21
    refine JL.val (Run.move rfl) ?_
    refine JL.val (Run.neq rfl rfl) ?_
    refine JL.to (fun _ _ h => h) ?_
    by_cases hm2 : md = 2
    · refine J.condF rfl (by simp [hm2]) ?_
      refine J.skip fun a ha => ⟨(h4, _, 0), ha.sub ⟨rfl, rfl, rfl, rfl, rfl, rfl, rfl, rfl, rfl, rfl, trivial⟩, hp4, hA4, fun _ _ _ _ => rfl, .inl ⟨hm2, rfl, rfl⟩⟩
    · refine J.condT rfl (by simp; omega) ?_
      refine J.region ?_    -- region 22
      refine JL.val (Run.field fl44_0 rfl) ?_
      refine JL.val (Run.build rfl build48) ?_
      refine JL.call rfl Yba.func16 rfl rfl ?_
      refine add_calls (by omega) hp4 hA4 (by rw [List.length_set]; omega) _ ?_
      intro w5 h5 hp5 hA5 hf5
      rw [List.length_set, hlen]
      refine ⟨_, rfl, ?_⟩
      refine JL.val (Run.assign rfl) ?_
      refine JL.nil fun a ha => ⟨(h5, _, X.length + 1), ha.sub ⟨rfl, rfl, rfl, rfl, rfl, rfl, rfl, rfl, rfl, rfl, trivial⟩, hp5, hA5, hf5, .inr ⟨hm2, rfl, rfl⟩⟩
  rintro ⟨h5, stsA, sI⟩ w5 ⟨hp5, hA5, hf5, hsor⟩
  simp only at hp5 hA5 hf5 hsor ⊢
  have hpb5 := (hf5 (34, 0) (by simp) (by simp) (by simp)).trans hpb
  -- p.x
  refine J.mid (ι := Hn × Int)
    (fun q => [(1, .slice ya Y.length yc), (3, .bool tk), (9, .int .i64 (md : Int)), (10, ptr va), (11, ptr vb), (12, .int .i32 0), (14, e14), (15, e15), (19, ptr pb), (20, .int .i32 (sI : Int))])
    (fun q w' => Hp w w' q.1 ∧ q.1 (34, 0) = some (pb, cellsO [.int .i32 q.2, .int .i32 0] 54) ∧ (q.2 = if md = 0 then -1 else 0) ∧ ∀ n : Nat × Nat, n.1 ≠ 34 → q.1 n = h5 n) ?_ ?_
  · refine J.seq ?_
    refine J.region ?_    -- region 23
    refine JL.val (Run.move rfl) ?_
    refine JL.val (Run.neq rfl rfl) ?_
    refine JL.to (fun _ _ h => h) ?_
    by_cases hm0 : md = 0
    · refine J.condF rfl (by simp [hm0]) ?_
      refine J.skip fun a ha => ⟨(h5, -1), ha.sub ⟨rfl, rfl, rfl, rfl, rfl, rfl, rfl, rfl, rfl, rfl, trivial⟩, hp5, hpb5, by simp [hm0], fun _ _ => rfl⟩
    · refine J.condT rfl (by simp; omega) ?_
      refine J.region ?_    -- region 24
      refine JL.val (Run.move rfl) ?_
      refine JL.val (Run.field fl54_0 rfl) ?_
      refine JL.eff (Run.store c21 rfl rfl rfl (hp5.blk hpb5) (by simp)) ?_
      have hpb6 : hup h5 (34, 0) (some (pb, cellsO [.int .i32 0, .int .i32 0] 54)) (34, 0) = some (pb, cellsO [.int .i32 0, .int .i32 0] 54) := hup_same
      refine JL.nil fun a ha => ⟨(hup h5 (34, 0) (some (pb, cellsO [.int .i32 0, .int .i32 0] 54)), 0), ha.sub ⟨rfl, rfl, rfl, rfl, rfl, rfl, rfl, rfl, rfl, rfl, trivial⟩, hp5.stl hpb5 _, hpb6, by simp [hm0], fun n hn => by simp only; rw [hup_ne (fun e => by subst e; simp at hn)]⟩
  rintro ⟨h6, px⟩ w6 ⟨hp6, hpb6, hpx, hf6⟩
  simp only at hp6 hpb6 hpx hf6 ⊢
  have hA6 : LsE h6 1 va stsA := hA5.keep fun n hn => hf6 n (by omega)
  have hB6 : LsE h6 4 vb [] := hB4.keep fun n hn => (hf6 n (by omega)).trans (hf5 n (by omega) (by omega) (by omega))
  have hs20 := (hs20.keep (hf5 _ (by simp) (by simp) (by simp))).keep (hf6 _ (by simp))
  have hs24 := (hs24.keep (hf5 _ (by simp) (by simp) (by simp))).keep (hf6 _ (by simp))
  have hs25 := (hs25.keep (hf5 _ (by simp) (by simp) (by simp))).keep (hf6 _ (by simp))
  clear hA5 hp5 hp4 hA4 hB4 hA3 hB3 hp3 hf5 hf6 hpb hpb5 hk4
  refine J.seq ?_
  refine J.region ?_    -- region 25
  refine JL.val (Run.assign rfl) ?_
  refine JL.val (Run.assign rfl) ?_
  refine JL.val (Run.assign rfl) ?_
  refine JL.to (fun _ _ h => h) ?_
  refine J.seq ?_
  refine J.seq ?_
  refine J.region ?_    -- region 26
  refine JL.val (Run.move rfl) ?_
  refine JL.val (Run.len Yba.underlying39 rfl) ?_
  refine JL.val (Run.move rfl) ?_
  refine JL.to (fun _ _ h => h) ?_
  refine J.block ?_
  refine J.loop (ι := Nat × Hn × List Sv × Value × Value × Value)
    (fun i => [(3, .bool tk), (9, .int .i64 (md : Int)), (10, ptr va), (11, ptr vb), (12, .int .i32 0), (14, e14), (15, e15), (19, ptr pb), (20, .int .i32 (sI : Int)), (21, i.2.2.2.1), (22, i.2.2.2.2.1), (23, i.2.2.2.2.2), (113, .slice ya Y.length yc), (114, .int .i64 (Y.length : Int)), (115, .int .i64 (i.1 : Int))])
    (fun i w' => i.1 ≤ Y.length ∧ Hp w w' i.2.1 ∧ LsE i.2.1 4 vb i.2.2.1 ∧ YB i.2.2.1 Y i.1 ∧ Sl i.2.1 (23, 0) 21 1 i.2.2.2.1 i.1 (i32s (nI (List.range i.1))) ∧
      Sl i.2.1 (26, 0) 21 1 i.2.2.2.2.1 ((List.range i.1).filter fun t => !sY Y t).length (i32s (nI ((List.range i.1).filter fun t => !sY Y t))) ∧ Sl i.2.1 (27, 0) 21 1 i.2.2.2.2.2 ((List.range i.1).filter (sY Y)).length (i32s (nI ((List.range i.1).filter (sY Y)))) ∧
      ∀ n : Nat × Nat, (1 ≤ n.1 ∧ n.1 ≤ 3) ∨ n.1 = 20 ∨ n.1 = 24 ∨ n.1 = 25 ∨ n.1 = 34 → i.2.1 n = h6 n)
    (fun i => Y.length - i.1) (0, h6, [], .slice none 0 0, .slice none 0 0, .slice none 0 0) ⟨rfl, rfl, rfl, rfl, rfl, rfl, rfl, rfl, rfl, rfl, rfl, rfl, rfl, rfl, rfl, trivial⟩
    ⟨by omega, hp6, hB6, ⟨rfl, fun j x hj => by omega⟩, Sl.nil _ _ _ _, Sl.nil _ _ _ _, Sl.nil _ _ _ _, fun _ _ => rfl⟩ ?_
  clear hp6 hB6
  rintro ⟨i, h7, stsB, e21, e22, e23⟩ w7 ⟨hi, hp7, hB7, hyb, hs23, hs26, hs27, hf7⟩
  simp only at hi hp7 hB7 hyb hs23 hs26 hs27 hf7 ⊢
  refine J.seq ?_
  refine J.region ?_    -- region 27
  refine JL.val (Run.lss rfl rfl) ?_
  refine JL.to (fun _ _ h => h) ?_
  refine J.seq ?_
  refine J.cond rfl (fun hc => ?_) (fun hc => ?_)
  · have hil : i < Y.length := by have := of_decide_eq_true hc; omega
    clear hc
    obtain ⟨x, hx⟩ : ∃ x, Y[i]? = some x := ⟨Y[i], List.getElem?_eq_getElem hil⟩
    obtain ⟨yb, yo, hye, hycell⟩ := hYc i x hx
    subst hye
    have hycell2 := hp7.bel.cell1 hycell
    have hsy : sY Y i = x := by simp [sY, List.getD, hx]
    have hylen := hyb.len
    have hfl1 : ((List.range i).filter fun t => !sY Y t).length ≤ i := by have := List.length_filter_le (fun t => !sY Y t) (List.range i); rw [List.length_range] at this; exact this
    have hfl2 : ((List.range i).filter (sY Y)).length ≤ i := by have := List.length_filter_le (sY Y) (List.range i); rw [List.length_range] at this; exact this
    refine J.skipTo (fun _ _ h => h) ?_
    refine J.seq ?_
    refine J.block ?_
    refine J.seq ?_
    refine J.region ?_    -- region 28
    refine JL.val (Run.index Yba.underlying39 c4 (by decide) rfl rfl hil) ?_
    refine JL.val (Run.load t4 rfl (by rw [Nat.mul_one]; exact hycell2)) ?_
    refine JL.val (Run.assign rfl) ?_
    refine JL.to (fun _ _ h => h) ?_
    refine J.seq ?_
    refine J.region ?_    -- region 29
    refine JL.val (Run.field fl44_0 rfl) ?_
    refine JL.val (Run.move rfl) ?_
    refine JL.call rfl Yba.func17 rfl rfl ?_
    refine state_calls (by omega) x hp7 hB7 (by omega) _ ?_
    intro w8 h8 ed hp8 hB8 hf8
    rw [hylen]
    refine ⟨_, rfl, ?_⟩
    refine JL.val (Run.assign rfl) ?_
    refine JL.to (fun _ _ h => h) ?_
    have hyb8 : YB (stsB ++ [stOf x ed]) Y (i + 1) := by
      refine ⟨by simp [hylen], fun j y hj hy => ?_⟩
      rcases Nat.lt_or_ge j i with hji | hji
      · rw [List.getElem?_append_left (by omega)]
        exact hyb.st j y hji hy
      · have : j = i := by omega
        subst this
        rw [hx] at hy
        cases hy
        exact ⟨stOf x ed, by rw [List.getElem?_append_right (by omega), hylen]; simp, rfl⟩
    have hs23' := hs23.keep (hf8 _ (by simp) (by simp) (by simp) (by simp))
    have hs26' := hs26.keep (hf8 _ (by simp) (by simp) (by simp) (by simp))
    have hs27' := hs27.keep (hf8 _ (by simp) (by simp) (by simp) (by simp))
    obtain ⟨b9, c9, w9, h9, hrun9, hp9, hs9, hf9⟩ := push1 hp8 hs23' (i : Int) (by omega)
    have e3 : nI (List.range (i + 1)) = nI (List.range i) ++ [(i : Int)] := by rw [List.range_succ]; simp [nI]
    rw [← e3] at hs9
    refine J.seq ?_
    refine J.region ?_    -- region 30
    refine JL.val (Run.move rfl) ?_
    refine JL.val (Run.move rfl) ?_
    refine JL.val (Run.buildSlice rfl (buildSlice1 el22 rfl)) ?_
    refine JL.val (Run.append rfl rfl hrun9) ?_
    refine JL.val (Run.assign rfl) ?_
    refine JL.to (fun _ _ h => h) ?_
    refine J.seq ?_
    refine J.region ?_    -- region 31
    refine JL.val (Run.move rfl) ?_
    refine JL.to (fun _ _ h => h) ?_
    have hB9 : LsE h9 4 vb (stsB ++ [stOf x ed]) := hB8.keep fun n hn => hf9 n (fun e => by subst e; simp at hn)
    have hk9 : ∀ n : Nat × Nat, (1 ≤ n.1 ∧ n.1 ≤ 3) ∨ n.1 = 20 ∨ n.1 = 24 ∨ n.1 = 25 ∨ n.1 = 34 → h9 n = h6 n := fun n hn => by
      rw [hf9 n (fun e => by subst e; simp at hn), hf8 n (by omega) (by omega) (by omega) (by omega)]
      exact hf7 n hn
    cases x with
    | true =>
      have e1 : ((List.range (i + 1)).filter fun t => !sY Y t) = (List.range i).filter fun t => !sY Y t := by rw [List.range_succ, List.filter_append]; simp [hsy]
      have e2 : (List.range (i + 1)).filter (sY Y) = (List.range i).filter (sY Y) ++ [i] := by rw [List.range_succ, List.filter_append]; simp [hsy]
      have e4 : nI ((List.range i).filter (sY Y) ++ [i]) = nI ((List.range i).filter (sY Y)) ++ [(i : Int)] := by simp [nI]
      obtain ⟨b5, c5, w5, h5', hrun, hp5, hs5, hf5⟩ := push1 hp9 (hs27'.keep (hf9 _ (by simp))) (i : Int) (by omega)
      rw [← e4, ← e2] at hs5
      have hl5 : ((List.range i).filter (sY Y)).length + 1 = ((List.range (i + 1)).filter (sY Y)).length := by rw [e2, List.length_append, List.length_singleton]
      rw [hl5] at hs5 hrun
      refine J.condT rfl rfl ?_
      refine J.region ?_    -- region 32
      refine JL.val (Run.move rfl) ?_
      refine JL.val (Run.move rfl) ?_
      refine JL.val (Run.buildSlice rfl (buildSlice1 el22 rfl)) ?_
      refine JL.val (Run.append rfl rfl hrun) ?_
      refine JL.val (Run.assign rfl) ?_
      refine JL.to (fun _ _ h => h) ?_
      refine J.region ?_    -- region 34
      refine JL.val (Run.add (c := ((i + 1 : Nat) : Int)) rfl rfl (by omega) (by omega) (by omega)) ?_
      refine JL.val (Run.move rfl) ?_
      refine JL.nil fun a ha => ⟨(i + 1, h5', _, .slice (some ⟨b9, 0, none⟩) (i + 1) c9, e22, .slice (some ⟨b5, 0, none⟩) ((List.range (i + 1)).filter (sY Y)).length c5), by simp only; omega, ha.sub ⟨rfl, rfl, rfl, rfl, rfl, rfl, rfl, rfl, rfl, rfl, rfl, rfl, rfl, rfl, rfl, trivial⟩, by simp only; omega, hp5, hB9.keep fun n hn => hf5 n (fun e => by subst e; simp at hn), hyb8, hs9.keep (hf5 _ (by simp)), by simp only; rw [e1]; exact (hs26'.keep (hf9 _ (by simp))).keep (hf5 _ (by simp)), hs5, fun n hn => (hf5 n (fun e => by subst e; simp at hn)).trans (hk9 n hn)⟩
    | false =>
      have e1 : ((List.range (i + 1)).filter fun t => !sY Y t) = ((List.range i).filter fun t => !sY Y t) ++ [i] := by rw [List.range_succ, List.filter_append]; simp [hsy]
      have e2 : (List.range (i + 1)).filter (sY Y) = (List.range i).filter (sY Y) := by rw [List.range_succ, List.filter_append]; simp [hsy]
      have e4 : nI (((List.range i).filter fun t => !sY Y t) ++ [i]) = nI ((List.range i).filter fun t => !sY Y t) ++ [(i : Int)] := by simp [nI]
      obtain ⟨b5, c5, w5, h5', hrun, hp5, hs5, hf5⟩ := push1 hp9 (hs26'.keep (hf9 _ (by simp))) (i : Int) (by omega)
      rw [← e4, ← e1] at hs5
      have hl5 : ((List.range i).filter fun t => !sY Y t).length + 1 = ((List.range (i + 1)).filter fun t => !sY Y t).length := by rw [e1, List.length_append, List.length_singleton]
      rw [hl5] at hs5 hrun
      refine J.condF rfl rfl ?_
      refine J.region ?_    -- region 33
      refine JL.val (Run.move rfl) ?_
      refine JL.val (Run.move rfl) ?_
      refine JL.val (Run.buildSlice rfl (buildSlice1 el22 rfl)) ?_
      refine JL.val (Run.append rfl rfl hrun) ?_
      refine JL.val (Run.assign rfl) ?_
      refine JL.to (fun _ _ h => h) ?_
      refine J.region ?_    -- region 34
      refine JL.val (Run.add (c := ((i + 1 : Nat) : Int)) rfl rfl (by omega) (by omega) (by omega)) ?_
      refine JL.val (Run.move rfl) ?_
      refine JL.nil fun a ha => ⟨(i + 1, h5', _, .slice (some ⟨b9, 0, none⟩) (i + 1) c9, .slice (some ⟨b5, 0, none⟩) ((List.range (i + 1)).filter fun t => !sY Y t).length c5, e23), by simp only; omega, ha.sub ⟨rfl, rfl, rfl, rfl, rfl, rfl, rfl, rfl, rfl, rfl, rfl, rfl, rfl, rfl, rfl, trivial⟩, by simp only; omega, hp5, hB9.keep fun n hn => hf5 n (fun e => by subst e; simp at hn), hyb8, hs9.keep (hf5 _ (by simp)), hs5, by simp only; rw [e2]; exact (hs27'.keep (hf9 _ (by simp))).keep (hf5 _ (by simp)), fun n hn => (hf5 n (fun e => by subst e; simp at hn)).trans (hk9 n hn)⟩
  have hil : i = Y.length := by have := of_decide_eq_false hc; omega
  subst hil
  clear hc hi
  refine J.exitTo (fun _ _ h => h) ?_    -- exit 2
  have hA7 : LsE h7 1 va stsA := hA6.keep fun n hn => hf7 n (by omega)
  have hs20 := hs20.keep (hf7 _ (by simp))
  have hs24 := hs24.keep (hf7 _ (by simp))
  have hs25 := hs25.keep (hf7 _ (by simp))
  have hpb7 := (hf7 (34, 0) (by simp)).trans hpb6
  clear hA6 hpb6 hf7
  -- what a's and b's states are
  have hlenA : stsA.length = if md = 2 then X.length + 1 else X.length + 2 := by
    rcases hsor with ⟨e1, e2, e3⟩ | ⟨e1, e2, e3⟩
    · rw [e3, List.length_set, hlen, if_pos e1]
    · rw [e3, List.length_append, List.length_set, hlen, if_neg e1]; rfl
  have hgetA : ∀ q, q < X.length + 1 → stsA[q]? = (sts.set 0 ⟨false, .slice none 0 0, e13, 0, 0⟩)[q]? := fun q hq => by
    rcases hsor with ⟨_, _, e3⟩ | ⟨_, _, e3⟩
    · rw [e3]
    · rw [e3, List.getElem?_append_left (by rw [List.length_set, hlen]; exact hq)]
  have hsx : stsA[0]? = some ⟨false, .slice none 0 0, e13, 0, 0⟩ := by rw [hgetA 0 (by omega)]; exact List.getElem?_set_self (by omega)
  have hsIlt : sI < stsA.length := by
    rcases hsor with ⟨e1, e2, e3⟩ | ⟨e1, e2, e3⟩
    · rw [hlenA, if_pos e1, e2]; omega
    · rw [hlenA, if_neg e1, e2]; omega
  have hsI0 : sI ≠ 0 → stsA[sI]? = some sv0 := fun hne => by
    rcases hsor with ⟨e1, e2, e3⟩ | ⟨e1, e2, e3⟩
    · exact absurd e2 hne
    · rw [e3, e2, List.getElem?_append_right (by rw [List.length_set]; omega), List.length_set, hlen]; simp
  have hstA : ∀ t, t ∈ tsK X.length → ∃ st, stsA[t]? = some st ∧ st.star = sX X t ∧ (sX X t = true → st.indeg = if tk then 2 else 0) := fun t ht => by
    obtain ⟨h1, h2⟩ := tsK_mem ht
    obtain ⟨x, hx⟩ : ∃ x, X[t - 1]? = some x := ⟨X[t - 1]'(by omega), List.getElem?_eq_getElem (by omega)⟩
    obtain ⟨st, hst, hs1, hs2⟩ := hxa.st (t - 1) x (by omega) hx
    have hsxx : sX X t = x := by simp [sX, List.getD, hx]
    rw [show t - 1 + 1 = t by omega] at hst
    refine ⟨st, ?_, by rw [hsxx]; exact hs1, fun h => hs2 (by rw [← hsxx]; exact h)⟩
    rw [hgetA t (by omega), List.getElem?_set_ne (by omega)]
    exact hst
  have hfA : ∀ t ∈ tsK X.length, starAt stsA t = sX X t := fun t ht => by
    obtain ⟨st, h1, h2, _⟩ := hstA t ht
    rw [starAt_of h1, h2]
  have hylen := hyb.len
  have hfB : ∀ t ∈ List.range Y.length, starAt stsB t = sY Y t := fun t ht => by
    have h1 := List.mem_range.1 ht
    obtain ⟨x, hx⟩ : ∃ x, Y[t]? = some x := ⟨Y[t], List.getElem?_eq_getElem h1⟩
    obtain ⟨st, hst, hs1⟩ := hyb.st t x h1 hx
    rw [starAt_of hst, hs1]
    simp [sY, List.getD, hx]
  have eA1 : ((tsK X.length).filter fun t => !starAt stsA t) = (tsK X.length).filter fun t => !sX X t := List.filter_congr fun t ht => by rw [hfA t ht]
  have eA2 : (tsK X.length).filter (starAt stsA) = (tsK X.length).filter (sX X) := List.filter_congr fun t ht => by rw [hfA t ht]
  have eB1 : ((List.range Y.length).filter fun t => !starAt stsB t) = (List.range Y.length).filter fun t => !sY Y t := List.filter_congr fun t ht => by rw [hfB t ht]
  have eB2 : (List.range Y.length).filter (starAt stsB) = (List.range Y.length).filter (sY Y) := List.filter_congr fun t ht => by rw [hfB t ht]
  obtain ⟨ovA, rowsA, hlA, hrnA⟩ := id hA7
  refine J.seq ?_
  refine J.region ?_    -- region 35
  refine JL.val (Run.field fl44_0 rfl) ?_
  refine JL.val (Run.field fl42_1 rfl) ?_
  refine JL.val (Run.load t21 rfl (hp7.cell hlA.var rfl)) ?_
  refine JL.val (Run.assign rfl) ?_
  refine JL.to (fun _ _ h => h) ?_
  -- the merge
  have hp8 := (hp7.new (12, 0) (mapO [])).new (10, 0) (cellsO [ptr va, ptr vb, .map (some w7.heap.size), nil0, nil0, nil0, nil0, nil0, nil0] 60)
  have hk8 : ∀ n : Nat × Nat, n.1 ≠ 10 → n.1 ≠ 12 → hup (hup h7 (12, 0) (some (w7.heap.size, mapO []))) (10, 0) (some ((w7.alloc (mapO [])).heap.size, cellsO [ptr va, ptr vb, .map (some w7.heap.size), nil0, nil0, nil0, nil0, nil0, nil0] 60)) n = h7 n := fun n h1 h2 => by rw [hup_ne (fun e => by subst e; simp at h1), hup_ne (fun e => by subst e; simp at h2)]
  have hm8 : Mg (hup (hup h7 (12, 0) (some (w7.heap.size, mapO []))) (10, 0) (some ((w7.alloc (mapO [])).heap.size, cellsO [ptr va, ptr vb, .map (some w7.heap.size), nil0, nil0, nil0, nil0, nil0, nil0] 60))) (w7.alloc (mapO [])).heap.size va vb [] nil0 nil0 nil0 nil0 :=
    ⟨w7.heap.size, nil0, hup_same, by rw [hup_ne (by simp)]; exact hup_same, Sl.nil _ _ _ _⟩
  refine J.seq ?_
  refine J.region ?_    -- region 36
  refine JL.val Run.makeMap ?_
  refine JL.val (Run.build rfl build60) ?_
  refine JL.val (Run.box (l := [ptr va, ptr vb, .map (some w7.heap.size), nil0, nil0, nil0, nil0, nil0, nil0]) rfl rfl) ?_
  refine JL.val (Run.assign rfl) ?_
  refine JL.to (fun _ _ h => h) ?_
  have hmo : (Obj.map #[] 0) = mapO [] := rfl
  rw [hmo]
  generalize hup (hup h7 (12, 0) (some (w7.heap.size, mapO []))) (10, 0) (some ((w7.alloc (mapO [])).heap.size, cellsO [ptr va, ptr vb, .map (some w7.heap.size), nil0, nil0, nil0, nil0, nil0, nil0] 60)) = h8 at *
  generalize (w7.alloc (mapO [])).alloc (cellsO [ptr va, ptr vb, .map (some w7.heap.size), nil0, nil0, nil0, nil0, nil0, nil0] 60) = w8 at *
  generalize (w7.alloc (mapO [])).heap.size = mb at *
  have hA8 : LsE h8 1 va stsA := hA7.keep fun n hn => hk8 n (by omega) (by omega)
  have hB8 : LsE h8 4 vb stsB := hB7.keep fun n hn => hk8 n (by omega) (by omega)
  have hs20 := hs20.keep (hk8 _ (by simp) (by simp))
  have hs24 := hs24.keep (hk8 _ (by simp) (by simp))
  have hs25 := hs25.keep (hk8 _ (by simp) (by simp))
  have hs23 := hs23.keep (hk8 _ (by simp) (by simp))
  have hs26 := hs26.keep (hk8 _ (by simp) (by simp))
  have hs27 := hs27.keep (hk8 _ (by simp) (by simp))
  have hpb8 := (hk8 (34, 0) (by simp) (by simp)).trans hpb7
  have hpx2 : px = -1 ∨ px = 0 := by rw [hpx]; split <;> simp
  refine J.seq ?_
  refine J.region ?_    -- region 37
  refine JL.val (Run.move rfl) ?_
  refine JL.val (Run.loadA (cs := [.int .i32 px, .int .i32 0]) ta54 rfl (fun j u hj => by rw [Nat.zero_add]; exact hp8.cell hpb8 hj)) ?_
  refine JL.val (Run.move rfl) ?_
  refine JL.val (Run.move rfl) ?_
  refine JL.call rfl Yba.func19 rfl rfl ?_
  refine write_calls px sI e21 (tsK X.length) (List.range Y.length) (if tk then 2 else 0) ⟨false, .slice none 0 0, e13, 0, 0⟩ hp8 hA8 hB8 hm8 (by rw [List.length_range]; exact hs23) (by rw [hlenA]; split <;> omega) (by rw [List.length_range]; omega) (by rw [tsK_len]; omega) List.nodup_range (tsK_nodup _) (fun u hu => by have := List.mem_range.1 hu; omega)
    hpx2 hsIlt hsI0 hsx rfl (by rw [tsK_len]; exact hs20) (fun t ht => by have := tsK_mem ht; exact ⟨by rw [hlenA]; split <;> omega, by omega⟩) (fun t ht st hst hstar => ?_) (by split <;> omega) (fun e => ?_) _ ?_
  · obtain ⟨st', h1, h2, h3⟩ := hstA t ht
    rw [hst] at h1
    cases h1
    exact h3 (by rw [← h2]; exact hstar)
  · rcases hsor with ⟨e1, _⟩ | ⟨_, e2, _⟩
    · rw [hpx, if_neg (by omega)] at e; omega
    · omega
  rw [eA1, eA2, eB1, eB2]
  intro w9 h9 stsF rv9 av9 ev9 sv9 hwe
  refine ⟨_, rfl, ?_⟩
  refine JL.to (fun _ _ h => h) ?_
  have hs24 := hs24.keep (hwe.fr (24, 0) (by simp))
  have hs25 := hs25.keep (hwe.fr (25, 0) (by simp))
  have hs26 := hs26.keep (hwe.fr (26, 0) (by simp))
  have hs27 := hs27.keep (hwe.fr (27, 0) (by simp))
  have hpmd : px = -1 ↔ md = 0 := by rw [hpx]; split <;> omega
  generalize hplD : (if px = -1 then [] else (tsK X.length).filter fun t => !sX X t) = pl at *
  generalize hxsD : (if px = -1 then [] else (tsK X.length).filter (sX X)) = xs at *
  have hplv : Sl h9 (24, 0) 21 1 (if md = 0 then nil0 else e14) pl.length (i32s (nI pl)) := by
    rw [← hplD]
    by_cases hm0 : md = 0
    · rw [if_pos hm0, if_pos (hpmd.2 hm0)]; exact Sl.nil _ _ _ _
    · rw [if_neg hm0, if_neg (fun e => hm0 (hpmd.1 e))]; exact hs24
  have hxsv : Sl h9 (25, 0) 21 1 (if md = 0 then nil0 else e15) xs.length (i32s (nI xs)) := by
    rw [← hxsD]
    by_cases hm0 : md = 0
    · rw [if_pos hm0, if_pos (hpmd.2 hm0)]; exact Sl.nil _ _ _ _
    · rw [if_neg hm0, if_neg (fun e => hm0 (hpmd.1 e))]; exact hs25
  have hplx : pl.length + xs.length ≤ 300 := by
    rw [← hplD, ← hxsD]
    split
    · simp
    · have := filter_sum (sX X) (tsK X.length); rw [tsK_len] at this; omega
  generalize hyp : ((List.range Y.length).filter fun t => !sY Y t) = yp at *
  generalize hyst : (List.range Y.length).filter (sY Y) = yst at *
  have hypl : yp.length + yst.length ≤ 300 := by
    rw [← hyp, ← hyst]
    have := filter_sum (sY Y) (List.range Y.length); rw [List.length_range] at this; omega
  refine J.seq ?_
  refine J.region ?_    -- region 38
  refine JL.val (Run.move rfl) ?_
  refine JL.val (Run.move rfl) ?_
  refine JL.val (Run.assign rfl) ?_
  refine JL.val (Run.assign rfl) ?_
  refine JL.to (fun _ _ h => h) ?_
  refine J.mid (ι := Unit) (fun _ => [(3, .bool tk), (9, .int .i64 (md : Int)), (10, ptr va), (12, .int .i32 0), (14, e14), (15, e15), (20, .int .i32 (sI : Int)), (22, e22), (23, e23), (27, .int .i32 (stsA.length : Int)), (28, ptr mb), (29, if md = 0 then nil0 else e14), (30, if md = 0 then nil0 else e15)]) (fun _ w' => w' = w9) ?_ ?_
  · refine J.seq ?_
    refine J.region ?_    -- region 39
    refine JL.val (Run.move rfl) ?_
    refine JL.val (Run.eql rfl rfl) ?_
    refine JL.to (fun _ _ h => h) ?_
    by_cases hm0 : md = 0
    · refine J.condT rfl (by simp [hm0]) ?_
      refine J.region ?_    -- region 40
      refine JL.val (Run.assign rfl) ?_
      refine JL.val (Run.assign rfl) ?_
      refine JL.nil fun a ha => ⟨(), ha.sub ⟨rfl, rfl, rfl, rfl, rfl, rfl, rfl, rfl, rfl, rfl, rfl, by rw [if_pos hm0]; rfl, by rw [if_pos hm0]; rfl, trivial⟩, rfl⟩
    · refine J.condF rfl (by simp; omega) ?_
      refine J.skip fun a ha => ⟨(), ha.sub ⟨rfl, rfl, rfl, rfl, rfl, rfl, rfl, rfl, rfl, rfl, rfl, by rw [if_neg hm0]; rfl, by rw [if_neg hm0]; rfl, trivial⟩, rfl⟩
  rintro _ _ rfl
  generalize hpv : (if md = 0 then nil0 else e14) = plv at *
  generalize hxv : (if md = 0 then nil0 else e15) = xsv at *
  rename_i w9
  refine J.seq ?_
  refine J.region ?_    -- region 41
  refine JL.val (Run.move rfl) ?_
  refine JL.val (Run.assign rfl) ?_
  refine JL.to (fun _ _ h => h) ?_
  refine J.seq ?_
  refine J.region ?_    -- region 42
  refine JL.val (Run.assign rfl) ?_
  refine JL.to (fun _ _ h => h) ?_
  refine J.seq ?_
  refine J.region ?_    -- region 43
  refine JL.val (Run.assign rfl) ?_
  refine JL.to (fun _ _ h => h) ?_
  refine J.seq ?_
  refine J.region ?_    -- region 44
  refine JL.val (Run.assign rfl) ?_
  refine JL.to (fun _ _ h => h) ?_
  -- the law's own reckoning
  have hlp0 : LP w w9 h9 ⟨stsA.length, [], []⟩ nil0 nil0 nil0 := ⟨hwe.hp, Sl.nil _ _ _ _, Sl.nil _ _ _ _, Sl.nil _ _ _ _⟩
  have hnA : stsA.length ≤ 1000 := by rw [hlenA]; split <;> omega
  obtain ⟨pa26, pc26, hv26⟩ := hs26.slice
  obtain ⟨pa27, pc27, hv27⟩ := hs27.slice
  obtain ⟨pa25, pc25, hv25⟩ := hxsv.slice
  refine J.seq ?_
  refine J.seq ?_
  refine J.region ?_    -- region 45
  refine JL.val (Run.move rfl) ?_
  refine JL.val (Run.len Yba.underlying22 (by rw [← hv26]; rfl)) ?_
  refine JL.val (Run.move rfl) ?_
  refine JL.to (fun _ _ h => h) ?_
  refine J.block ?_
  refine J.loop (ι := Nat × Hn × Value × Value × Value)
    (fun i => [(3, .bool tk), (9, .int .i64 (md : Int)), (10, ptr va), (12, .int .i32 0), (14, e14), (15, e15), (20, .int .i32 (sI : Int)), (23, e23), (28, ptr mb), (29, plv), (30, xsv), (31, .int .i32 ((prun false ⟨stsA.length, [], []⟩ (alone (yp.take i.1))).next : Int)), (32, i.2.2.1), (33, i.2.2.2.1), (34, i.2.2.2.2), (152, e22), (153, .int .i64 (yp.length : Int)), (154, .int .i64 (i.1 : Int))])
    (fun i w' => i.1 ≤ yp.length ∧ LP w w' i.2.1 (prun false ⟨stsA.length, [], []⟩ (alone (yp.take i.1))) i.2.2.1 i.2.2.2.1 i.2.2.2.2 ∧ ∀ k : Nat × Nat, k.1 ≠ 30 → k.1 ≠ 31 → k.1 ≠ 32 → i.2.1 k = h9 k)
    (fun i => yp.length - i.1) (0, h9, nil0, nil0, nil0) ⟨rfl, rfl, rfl, rfl, rfl, rfl, rfl, rfl, rfl, rfl, rfl, rfl, rfl, rfl, rfl, rfl, rfl, rfl, trivial⟩ ⟨by omega, hlp0, fun _ _ _ _ => rfl⟩ ?_
  rintro ⟨j, h10, ev1, qv1, sv1⟩ w10 ⟨hj, hlp, hf10⟩
  simp only at hj hlp hf10 ⊢
  have hnx := prun_next false (alone (yp.take j)) ⟨stsA.length, [], []⟩
  have hll := prun_l false (alone (yp.take j)) ⟨stsA.length, [], []⟩
  have hel := prun_exp false (alone (yp.take j)) ⟨stsA.length, [], []⟩
  rw [alone_len, List.length_take] at hnx hll hel
  simp only [List.length_nil, Nat.zero_add] at hnx hll hel
  refine J.seq ?_
  refine J.region ?_    -- region 46
  refine JL.val (Run.lss rfl rfl) ?_
  refine JL.to (fun _ _ h => h) ?_
  refine J.seq ?_
  refine J.cond rfl (fun hc => ?_) (fun hc => ?_)
  · have hjl : j < yp.length := by have := of_decide_eq_true hc; omega
    clear hc
    obtain ⟨u, hu⟩ : ∃ u, yp[j]? = some u := ⟨yp[j], List.getElem?_eq_getElem hjl⟩
    obtain ⟨gy, cy, hye, hcell⟩ := (hs26.keep (hf10 (26, 0) (by simp) (by simp) (by simp))).cell hlp.hp (i := j) (u := .int .i32 (u : Int)) (by simp [hu])
    obtain ⟨b1, c1, w11, b2, c2, w12, b3, c3, w13, h13, r1, r2, r3, hlp3, hf13⟩ := hlp.push false (-1) (u : Int) ((prun false ⟨stsA.length, [], []⟩ (alone (yp.take j))).next : Int) rfl (by omega) (by omega)
    have e4 : alone (yp.take (j + 1)) = alone (yp.take j) ++ [((-1 : Int), ((u : Nat) : Int))] := by rw [take_get hu]; simp [alone]
    have e5 : (prun false ⟨stsA.length, [], []⟩ (alone (yp.take (j + 1)))).next = (prun false ⟨stsA.length, [], []⟩ (alone (yp.take j))).next + 1 := by rw [e4, prun_snoc, pst_nx]; rfl
    rw [← prun_snoc, ← e4] at hlp3
    subst hye
    refine J.skipTo (fun _ _ h => h) ?_
    refine J.seq ?_
    refine J.block ?_
    refine J.seq ?_
    refine J.region ?_    -- region 47
    refine JL.val (Run.index Yba.underlying22 c21 (by decide) rfl rfl hjl) ?_
    refine JL.val (Run.load t21 rfl (by rw [Nat.mul_one, Nat.zero_add]; exact hcell)) ?_
    refine JL.val (Run.assign rfl) ?_
    refine JL.to (fun _ _ h => h) ?_
    refine J.seq ?_
    refine J.region ?_    -- region 48
    refine JL.val (Run.move rfl) ?_
    refine JL.val (Run.move rfl) ?_
    refine JL.val (Run.buildSlice rfl (buildSlice1 el22 rfl)) ?_
    refine JL.val (Run.append rfl rfl r1) ?_
    refine JL.val (Run.assign rfl) ?_
    refine JL.to (fun _ _ h => h) ?_
    refine J.seq ?_
    refine J.region ?_    -- region 49
    refine JL.val (Run.move rfl) ?_
    refine JL.val (Run.move rfl) ?_
    refine JL.val (Run.build rfl build54) ?_
    refine JL.val (Run.buildSlice rfl lit58) ?_
    refine JL.val (Run.append rfl rfl r2) ?_
    refine JL.val (Run.assign rfl) ?_
    refine JL.to (fun _ _ h => h) ?_
    refine J.seq ?_
    refine J.region ?_    -- region 50
    refine JL.val (Run.move rfl) ?_
    refine JL.val (Run.move rfl) ?_
    refine JL.val (Run.buildSlice rfl (buildSlice1 el22 rfl)) ?_
    refine JL.val (Run.append rfl rfl r3) ?_
    refine JL.val (Run.assign rfl) ?_
    refine JL.to (fun _ _ h => h) ?_
    refine J.region ?_    -- region 51
    refine JL.val (Run.move rfl) ?_
    refine JL.val ((Run.addW rfl rfl).to (v' := .int .i32 ((prun false ⟨stsA.length, [], []⟩ (alone (yp.take (j + 1)))).next : Int)) (by rw [wrap_id32 (by omega) (by omega), e5]; simp)) ?_
    refine JL.val (Run.assign rfl) ?_
    refine JL.to (fun _ _ h => h) ?_
    refine J.region ?_    -- region 52
    refine JL.val (Run.add (c := ((j + 1 : Nat) : Int)) rfl rfl (by omega) (by omega) (by omega)) ?_
    refine JL.val (Run.move rfl) ?_
    refine JL.nil fun a ha => ⟨(j + 1, h13, _, _, _), by simp only; omega, ha.sub ⟨rfl, rfl, rfl, rfl, rfl, rfl, rfl, rfl, rfl, rfl, rfl, rfl, rfl, rfl, rfl, rfl, rfl, rfl, trivial⟩, by simp only; omega, hlp3, fun k k1 k2 k3 => (hf13 k k1 k2 k3).trans (hf10 k k1 k2 k3)⟩
  have hjl : j = yp.length := by have := of_decide_eq_false hc; omega
  subst hjl
  clear hc hj
  rw [List.take_length] at hlp hnx hll hel ⊢
  refine J.exitTo (fun _ _ h => h) ?_    -- exit 4
  have hsI2 : px = (sI : Int) ↔ md = 2 := by
    rcases hsor with ⟨e1, e2, _⟩ | ⟨e1, e2, _⟩
    · rw [hpx, e2, if_neg (by omega)]; simp [e1]
    · rw [hpx, e2]; split <;> omega
  have htake : (decide (px = (sI : Int)) && decide (yst.length = 1) && decide ((if tk then (2 : Int) else 0) = 2)) = (decide (md = 2) && decide (yst.length = 1) && tk) := by
    have hd : decide (px = (sI : Int)) = decide (md = 2) := decide_eq_decide.2 hsI2
    rw [hd]
    cases tk <;> simp
  rw [htake] at hwe
  generalize htk : (decide (md = 2) && decide (yst.length = 1) && tk) = take at *
  generalize hst1 : prun false ⟨stsA.length, [], []⟩ (alone yp) = st1 at *
  obtain ⟨epa, epc, hepv⟩ := hlp.e.slice
  refine J.seq ?_
  refine J.region ?_    -- region 53
  refine JL.val (Run.move rfl) ?_
  refine JL.val (Run.len Yba.underlying22 (by rw [← hepv]; rfl)) ?_
  refine JL.val (Run.assign rfl) ?_
  refine JL.to (fun _ _ h => h) ?_
  refine J.mid (ι := Hn × Value × Value × Value)
    (fun i => [(9, .int .i64 (md : Int)), (10, ptr va), (12, .int .i32 0), (14, e14), (15, e15), (20, .int .i32 (sI : Int)), (28, ptr mb), (29, plv), (30, xsv), (31, .int .i32 ((pfin stsA.length yp yst xs take).next : Int)), (32, i.2.1), (33, i.2.2.1), (34, i.2.2.2), (37, .int .i64 (st1.exp.length : Int))])
    (fun i w' => LP w w' i.1 (pfin stsA.length yp yst xs take) i.2.1 i.2.2.1 i.2.2.2 ∧ ∀ k : Nat × Nat, k.1 ≠ 30 → k.1 ≠ 31 → k.1 ≠ 32 → i.1 k = h9 k) ?_ ?_
  · subst hv27
    have hk3 : ∀ k : Nat × Nat, k.1 ≠ 30 → k.1 ≠ 31 → k.1 ≠ 32 → h10 k = h9 k := hf10
    refine J.block ?_
    refine J.seq ?_
    refine J.region ?_    -- region 70
    refine JL.val (Run.move rfl) ?_
    refine JL.val (Run.len Yba.underlying22 rfl) ?_
    refine JL.val (Run.eql rfl rfl) ?_
    refine JL.val (Run.assign rfl) ?_
    refine JL.to (fun _ _ h => h) ?_
    refine J.cond rfl (fun hc => ?_) (fun hc => ?_)
    · have hy0 : yst = [] := List.eq_nil_of_length_eq_zero (by have := of_decide_eq_true hc; omega)
      have hfin : pfin stsA.length yp yst xs take = ⟨st1.next, st1.exp ++ nI xs, st1.l⟩ := by
        unfold pfin
        rw [if_pos hy0, hst1]
      obtain ⟨v5, w5, h5, hrun, hp5, hs5, hf5⟩ := appendR (P := Yba.prog) (T := 22) hlp.hp el22 hlp.e ((hxsv.keep (hk3 _ (by simp) (by simp) (by simp))).rd hlp.hp) (by simp) (i32s_one _) (by omega) (by omega)
      refine J.region ?_    -- region 71
      refine JL.val (Run.move rfl) ?_
      refine JL.val (Run.move rfl) ?_
      refine JL.val (Run.append rfl rfl hrun) ?_
      refine JL.val (Run.assign rfl) ?_
      have hlp5 : LP w w5 h5 (pfin stsA.length yp yst xs take) v5 qv1 sv1 := by
        rw [hfin]
        refine ⟨hp5, ?_, hlp.q.keep (hf5 _ (by simp)), hlp.s.keep (hf5 _ (by simp))⟩
        have e3 : i32s (st1.exp ++ nI xs) = i32s st1.exp ++ i32s (nI xs) := by simp
        have e4 : (st1.exp ++ nI xs).length = st1.exp.length + xs.length := by simp
        simp only
        rw [e3, e4]
        exact hs5
      refine JL.nil fun a ha => ⟨(h5, v5, qv1, sv1), ha.sub ⟨rfl, rfl, rfl, rfl, rfl, rfl, rfl, rfl, rfl, by rw [hfin]; rfl, rfl, rfl, rfl, rfl, trivial⟩, hlp5, fun k k1 k2 k3 => (hf5 k (fun e => by subst e; simp at k1)).trans (hk3 k k1 k2 k3)⟩
    · have hy0 : yst ≠ [] := fun e => by have := of_decide_eq_false hc; rw [e] at this; simp at this
      refine J.seq ?_
      refine J.region ?_    -- region 72
      refine JL.val (Run.move rfl) ?_
      refine JL.val (Run.len Yba.underlying22 (by rw [← hv25]; rfl)) ?_
      refine JL.val (Run.eql rfl rfl) ?_
      refine JL.val (Run.assign rfl) ?_
      refine JL.to (fun _ _ h => h) ?_
      refine J.cond rfl (fun hc2 => ?_) (fun hc2 => ?_)
      · have hx0 : xs = [] := List.eq_nil_of_length_eq_zero (by have := of_decide_eq_true hc2; omega)
        have hfin : pfin stsA.length yp yst xs take = prun false st1 (alone yst) := by
          unfold pfin
          rw [if_neg hy0, if_pos hx0, hst1]
        refine J.seq ?_
        refine J.region ?_    -- region 73
        refine JL.val (Run.move rfl) ?_
        refine JL.val (Run.len Yba.underlying22 rfl) ?_
        refine JL.val (Run.move rfl) ?_
        refine JL.to (fun _ _ h => h) ?_
        refine J.block ?_
        refine J.loop (ι := Nat × Hn × Value × Value × Value)
          (fun i => [(9, .int .i64 (md : Int)), (10, ptr va), (12, .int .i32 0), (14, e14), (15, e15), (20, .int .i32 (sI : Int)), (28, ptr mb), (29, plv), (30, xsv), (31, .int .i32 ((prun false st1 (alone (yst.take i.1))).next : Int)), (32, i.2.2.1), (33, i.2.2.2.1), (34, i.2.2.2.2), (37, .int .i64 (st1.exp.length : Int)), (230, .slice pa27 yst.length pc27), (231, .int .i64 (yst.length : Int)), (232, .int .i64 (i.1 : Int))])
          (fun i w' => i.1 ≤ yst.length ∧ LP w w' i.2.1 (prun false st1 (alone (yst.take i.1))) i.2.2.1 i.2.2.2.1 i.2.2.2.2 ∧ ∀ k : Nat × Nat, k.1 ≠ 30 → k.1 ≠ 31 → k.1 ≠ 32 → i.2.1 k = h9 k)
          (fun i => yst.length - i.1) (0, h10, ev1, qv1, sv1) ⟨rfl, rfl, rfl, rfl, rfl, rfl, rfl, rfl, rfl, rfl, rfl, rfl, rfl, rfl, rfl, rfl, rfl, trivial⟩ ⟨by omega, hlp, hk3⟩ ?_
        rintro ⟨j, h12, ev3, qv3, sv3⟩ w12 ⟨hj, hlp3, hf12⟩
        simp only at hj hlp3 hf12 ⊢
        have hnx2 := prun_next false (alone (yst.take j)) st1
        have hll2 := prun_l false (alone (yst.take j)) st1
        have hel2 := prun_exp false (alone (yst.take j)) st1
        rw [alone_len, List.length_take] at hnx2 hll2 hel2
        refine J.seq ?_
        refine J.region ?_    -- region 74
        refine JL.val (Run.lss rfl rfl) ?_
        refine JL.to (fun _ _ h => h) ?_
        refine J.seq ?_
        refine J.cond rfl (fun hc3 => ?_) (fun hc3 => ?_)
        · have hjl : j < yst.length := by have := of_decide_eq_true hc3; omega
          obtain ⟨u, hu⟩ : ∃ u, yst[j]? = some u := ⟨yst[j], List.getElem?_eq_getElem hjl⟩
          obtain ⟨gy, cy, hye, hcell⟩ := (hs27.keep (hf12 (27, 0) (by simp) (by simp) (by simp))).cell hlp3.hp (i := j) (u := .int .i32 (u : Int)) (by simp [hu])
          cases hye
          obtain ⟨b1, c1, w13, b2, c2, w14, b3, c3, w15, h15, r1, r2, r3, hlp4, hf15⟩ := hlp3.push false (-1) (u : Int) ((prun false st1 (alone (yst.take j))).next : Int) rfl (by omega) (by omega)
          have e4 : alone (yst.take (j + 1)) = alone (yst.take j) ++ [((-1 : Int), ((u : Nat) : Int))] := by rw [take_get hu]; simp [alone]
          have e5 : (prun false st1 (alone (yst.take (j + 1)))).next = (prun false st1 (alone (yst.take j))).next + 1 := by rw [e4, prun_snoc, pst_nx]; rfl
          rw [← prun_snoc, ← e4] at hlp4
          refine J.skipTo (fun _ _ h => h) ?_
          refine J.seq ?_
          refine J.block ?_
          refine J.seq ?_
          refine J.region ?_    -- region 75
          refine JL.val (Run.index Yba.underlying22 c21 (by decide) rfl rfl hjl) ?_
          refine JL.val (Run.load t21 rfl (by rw [Nat.mul_one, Nat.zero_add]; exact hcell)) ?_
          refine JL.val (Run.assign rfl) ?_
          refine JL.to (fun _ _ h => h) ?_
          refine J.seq ?_
          refine J.region ?_
          refine JL.val (Run.move rfl) ?_
          refine JL.val (Run.move rfl) ?_
          refine JL.val (Run.buildSlice rfl (buildSlice1 el22 rfl)) ?_
          refine JL.val (Run.append rfl rfl r1) ?_
          refine JL.val (Run.assign rfl) ?_
          refine JL.to (fun _ _ h => h) ?_
          refine J.seq ?_
          refine J.region ?_
          refine JL.val (Run.move rfl) ?_
          refine JL.val (Run.move rfl) ?_
          refine JL.val (Run.build rfl build54) ?_
          refine JL.val (Run.buildSlice rfl lit58) ?_
          refine JL.val (Run.append rfl rfl r2) ?_
          refine JL.val (Run.assign rfl) ?_
          refine JL.to (fun _ _ h => h) ?_
          refine J.seq ?_
          refine J.region ?_
          refine JL.val (Run.move rfl) ?_
          refine JL.val (Run.move rfl) ?_
          refine JL.val (Run.buildSlice rfl (buildSlice1 el22 rfl)) ?_
          refine JL.val (Run.append rfl rfl r3) ?_
          refine JL.val (Run.assign rfl) ?_
          refine JL.to (fun _ _ h => h) ?_
          refine J.region ?_    -- region 79
          refine JL.val (Run.move rfl) ?_
          refine JL.val ((Run.addW rfl rfl).to (v' := .int .i32 ((prun false st1 (alone (yst.take (j + 1)))).next : Int)) (by rw [wrap_id32 (by omega) (by omega), e5]; simp)) ?_
          refine JL.val (Run.assign rfl) ?_
          refine JL.to (fun _ _ h => h) ?_
          refine J.region ?_    -- region 80
          refine JL.val (Run.add (c := ((j + 1 : Nat) : Int)) rfl rfl (by omega) (by omega) (by omega)) ?_
          refine JL.val (Run.move rfl) ?_
          refine JL.nil fun a ha => ⟨(j + 1, h15, _, _, _), by simp only; omega, ha.sub ⟨rfl, rfl, rfl, rfl, rfl, rfl, rfl, rfl, rfl, rfl, rfl, rfl, rfl, rfl, rfl, rfl, rfl, trivial⟩, by simp only; omega, hlp4, fun k k1 k2 k3 => (hf15 k k1 k2 k3).trans (hf12 k k1 k2 k3)⟩
        · have hjl : j = yst.length := by have := of_decide_eq_false hc3; omega
          rw [hjl, List.take_length] at hlp3 ⊢
          rw [← hfin] at hlp3 ⊢
          refine J.exit fun a ha => ⟨(h12, ev3, qv3, sv3), ha.sub ⟨rfl, rfl, rfl, rfl, rfl, rfl, rfl, rfl, rfl, rfl, rfl, rfl, rfl, rfl, trivial⟩, hlp3, hf12⟩
      · have hx0 : xs ≠ [] := fun e => by have := of_decide_eq_false hc2; rw [e] at this; simp at this
        have hfin : pfin stsA.length yp yst xs take = prun take st1 (each xs yst) := by
          unfold pfin
          rw [if_neg hy0, if_neg hx0, hst1]
        refine J.mid (ι := Unit) (fun _ => [(9, .int .i64 (md : Int)), (10, ptr va), (12, .int .i32 0), (14, e14), (15, e15), (20, .int .i32 (sI : Int)), (28, ptr mb), (29, plv), (30, xsv), (23, .slice pa27 yst.length pc27), (31, .int .i32 (st1.next : Int)), (32, ev1), (33, qv1), (34, sv1), (37, .int .i64 (st1.exp.length : Int)), (40, .bool take)]) (fun _ w' => w' = w10) ?_ ?_
        · refine J.region ?_    -- region 54
          refine JL.val (Run.move rfl) ?_
          by_cases hm2 : md = 2
          · refine JL.val ((Run.eql rfl rfl).to (v' := .bool true) (by simp [hm2])) ?_
            refine JL.val (Run.move rfl) ?_
            refine JL.gval rfl rfl (Run.move rfl) ?_
            refine JL.gval rfl rfl (Run.len Yba.underlying22 rfl) ?_
            by_cases hy1 : yst.length = 1
            · refine JL.gval rfl rfl ((Run.eql rfl rfl).to (bt (by omega))) ?_
              refine JL.val (Run.pickT rfl rfl) ?_
              refine JL.val (Run.move rfl) ?_
              refine JL.gval rfl rfl (Run.move rfl) ?_
              refine JL.val ((Run.pickT rfl rfl).to (v' := .bool take) (by rw [← htk]; simp [hm2, hy1])) ?_
              refine JL.val (Run.assign rfl) ?_
              refine JL.nil fun a ha => ⟨(), ha.sub ⟨rfl, rfl, rfl, rfl, rfl, rfl, rfl, rfl, rfl, rfl, rfl, rfl, rfl, rfl, rfl, rfl, trivial⟩, rfl⟩
            · refine JL.gval rfl rfl ((Run.eql rfl rfl).to (bf (by omega))) ?_
              refine JL.val (Run.pickT rfl rfl) ?_
              refine JL.val (Run.move rfl) ?_
              refine JL.gskip rfl rfl ?_
              refine JL.val ((Run.pickF rfl rfl).to (v' := .bool take) (by rw [← htk]; simp [hy1])) ?_
              refine JL.val (Run.assign rfl) ?_
              refine JL.nil fun a ha => ⟨(), ha.sub ⟨rfl, rfl, rfl, rfl, rfl, rfl, rfl, rfl, rfl, rfl, rfl, rfl, rfl, rfl, rfl, rfl, trivial⟩, rfl⟩
          · refine JL.val ((Run.eql rfl rfl).to (v' := .bool false) (by simp; omega)) ?_
            refine JL.val (Run.move rfl) ?_
            refine JL.gskip rfl rfl ?_
            refine JL.gskip rfl rfl ?_
            refine JL.gskip rfl rfl ?_
            refine JL.val (Run.pickF rfl rfl) ?_
            refine JL.val (Run.move rfl) ?_
            refine JL.gskip rfl rfl ?_
            refine JL.val ((Run.pickF rfl rfl).to (v' := .bool take) (by rw [← htk]; simp [hm2])) ?_
            refine JL.val (Run.assign rfl) ?_
            refine JL.nil fun a ha => ⟨(), ha.sub ⟨rfl, rfl, rfl, rfl, rfl, rfl, rfl, rfl, rfl, rfl, rfl, rfl, rfl, rfl, rfl, rfl, trivial⟩, rfl⟩
        rintro _ _ rfl
        subst hv25
        refine J.seq ?_
        refine J.region ?_    -- region 55
        refine JL.val (Run.move rfl) ?_
        refine JL.val (Run.len Yba.underlying22 rfl) ?_
        refine JL.val (Run.move rfl) ?_
        refine JL.to (fun _ _ h => h) ?_
        refine J.block ?_
        refine J.loop (ι := Nat × Hn × Value × Value × Value)
          (fun i => [(9, .int .i64 (md : Int)), (10, ptr va), (12, .int .i32 0), (14, e14), (15, e15), (20, .int .i32 (sI : Int)), (28, ptr mb), (29, plv), (30, .slice pa25 xs.length pc25), (23, .slice pa27 yst.length pc27), (31, .int .i32 ((prun take st1 (each (xs.take i.1) yst)).next : Int)), (32, i.2.2.1), (33, i.2.2.2.1), (34, i.2.2.2.2), (37, .int .i64 (st1.exp.length : Int)), (40, .bool take), (186, .slice pa25 xs.length pc25), (187, .int .i64 (xs.length : Int)), (188, .int .i64 (i.1 : Int))])
          (fun i w' => i.1 ≤ xs.length ∧ LP w w' i.2.1 (prun take st1 (each (xs.take i.1) yst)) i.2.2.1 i.2.2.2.1 i.2.2.2.2 ∧ ∀ k : Nat × Nat, k.1 ≠ 30 → k.1 ≠ 31 → k.1 ≠ 32 → i.2.1 k = h9 k)
          (fun i => xs.length - i.1) (0, h10, ev1, qv1, sv1) ⟨rfl, rfl, rfl, rfl, rfl, rfl, rfl, rfl, rfl, rfl, rfl, rfl, rfl, rfl, rfl, rfl, rfl, rfl, rfl, trivial⟩ ⟨by omega, hlp, hk3⟩ ?_
        rintro ⟨i, h12, ev3, qv3, sv3⟩ w12 ⟨hi, hlp3, hf12⟩
        simp only at hi hlp3 hf12 ⊢
        refine J.seq ?_
        refine J.region ?_    -- region 56
        refine JL.val (Run.lss rfl rfl) ?_
        refine JL.to (fun _ _ h => h) ?_
        refine J.seq ?_
        refine J.cond rfl (fun hc3 => ?_) (fun hc3 => ?_)
        · have hil : i < xs.length := by have := of_decide_eq_true hc3; omega
          clear hc3
          obtain ⟨t, ht⟩ : ∃ t, xs[i]? = some t := ⟨xs[i], List.getElem?_eq_getElem hil⟩
          obtain ⟨gx, cx, hxe, hcell⟩ := (hxsv.keep (hf12 (25, 0) (by simp) (by simp) (by simp))).cell hlp3.hp (i := i) (u := .int .i32 (t : Int)) (by simp [ht])
          cases hxe
          refine J.skipTo (fun _ _ h => h) ?_
          refine J.seq ?_
          refine J.block ?_
          refine J.seq ?_
          refine J.region ?_    -- region 57
          refine JL.val (Run.index Yba.underlying22 c21 (by decide) rfl rfl hil) ?_
          refine JL.val (Run.load t21 rfl (by rw [Nat.mul_one, Nat.zero_add]; exact hcell)) ?_
          refine JL.val (Run.assign rfl) ?_
          refine JL.to (fun _ _ h => h) ?_
          refine J.seq ?_
          refine J.region ?_    -- region 58
          refine JL.val (Run.move rfl) ?_
          refine JL.val (Run.len Yba.underlying22 rfl) ?_
          refine JL.val (Run.move rfl) ?_
          refine JL.to (fun _ _ h => h) ?_
          refine J.block ?_
          refine J.loop (ι := Nat × Hn × Value × Value × Value)
            (fun q => [(9, .int .i64 (md : Int)), (10, ptr va), (12, .int .i32 0), (14, e14), (15, e15), (20, .int .i32 (sI : Int)), (28, ptr mb), (29, plv), (30, .slice (some ⟨gx, 0, none⟩) xs.length pc25), (23, .slice pa27 yst.length pc27), (31, .int .i32 ((prun take (prun take st1 (each (xs.take i) yst)) (one t (yst.take q.1))).next : Int)), (32, q.2.2.1), (33, q.2.2.2.1), (34, q.2.2.2.2), (37, .int .i64 (st1.exp.length : Int)), (40, .bool take), (42, .int .i32 (t : Int)), (186, .slice (some ⟨gx, 0, none⟩) xs.length pc25), (187, .int .i64 (xs.length : Int)), (188, .int .i64 (i : Int)), (192, .slice pa27 yst.length pc27), (193, .int .i64 (yst.length : Int)), (194, .int .i64 (q.1 : Int))])
            (fun q w' => q.1 ≤ yst.length ∧ LP w w' q.2.1 (prun take (prun take st1 (each (xs.take i) yst)) (one t (yst.take q.1))) q.2.2.1 q.2.2.2.1 q.2.2.2.2 ∧ ∀ k : Nat × Nat, k.1 ≠ 30 → k.1 ≠ 31 → k.1 ≠ 32 → q.2.1 k = h9 k)
            (fun q => yst.length - q.1) (0, h12, ev3, qv3, sv3) ⟨rfl, rfl, rfl, rfl, rfl, rfl, rfl, rfl, rfl, rfl, rfl, rfl, rfl, rfl, rfl, rfl, rfl, rfl, rfl, rfl, rfl, rfl, rfl, trivial⟩ ⟨by omega, hlp3, hf12⟩ ?_
          clear hlp3 hf12 hcell
          clear h12 ev3 qv3 sv3
          rintro ⟨j, h12, ev3, qv3, sv3⟩ w13 ⟨hj, hlp3, hf12⟩
          simp only at hj hlp3 hf12 ⊢
          have hnx0 := prun_next take (each (xs.take i) yst) st1
          have hll0 := prun_l take (each (xs.take i) yst) st1
          have hel0 := prun_exp take (each (xs.take i) yst) st1
          have hnx2 := prun_next take (one t (yst.take j)) (prun take st1 (each (xs.take i) yst))
          have hll2 := prun_l take (one t (yst.take j)) (prun take st1 (each (xs.take i) yst))
          have hel2 := prun_exp take (one t (yst.take j)) (prun take st1 (each (xs.take i) yst))
          have hmul : (xs.take i).length * yst.length ≤ 300 * 300 := Nat.mul_le_mul (by rw [List.length_take]; omega) (by omega)
          rw [each_len] at hnx0 hll0 hel0
          rw [one_len, List.length_take] at hnx2 hll2 hel2
          refine J.seq ?_
          refine J.region ?_    -- region 59
          refine JL.val (Run.lss rfl rfl) ?_
          refine JL.to (fun _ _ h => h) ?_
          refine J.seq ?_
          refine J.cond rfl (fun hc4 => ?_) (fun hc4 => ?_)
          · have hjl : j < yst.length := by have := of_decide_eq_true hc4; omega
            clear hc4
            obtain ⟨u, hu⟩ : ∃ u, yst[j]? = some u := ⟨yst[j], List.getElem?_eq_getElem hjl⟩
            obtain ⟨gy, cy, hye, hcell⟩ := (hs27.keep (hf12 (27, 0) (by simp) (by simp) (by simp))).cell hlp3.hp (i := j) (u := .int .i32 (u : Int)) (by simp [hu])
            cases hye
            have e4 : one t (yst.take (j + 1)) = one t (yst.take j) ++ [(((t : Nat) : Int), ((u : Nat) : Int))] := by rw [take_get hu]; simp [one]
            generalize hst2 : prun take (prun take st1 (each (xs.take i) yst)) (one t (yst.take j)) = st2 at *
            have e6 : prun take (prun take st1 (each (xs.take i) yst)) (one t (yst.take (j + 1))) = pst take st2 (((t : Nat) : Int), ((u : Nat) : Int)) := by rw [e4, prun_snoc, hst2]
            have e7 := pst_nx take st2 (((t : Nat) : Int), ((u : Nat) : Int))
            obtain ⟨b1, c1, w14, b2, c2, w15, b3, c3, w16, h16, r1, r2, r3, hlp4, hf16⟩ := hlp3.push take (t : Int) (u : Int) (if take then (t : Int) else (st2.next : Int)) rfl (by omega) (by omega)
            rw [← e6] at hlp4 e7
            refine J.skipTo (fun _ _ h => h) ?_
            refine J.seq ?_
            refine J.block ?_
            refine J.seq ?_
            refine J.region ?_    -- region 60
            refine JL.val (Run.index Yba.underlying22 c21 (by decide) rfl rfl hjl) ?_
            refine JL.val (Run.load t21 rfl (by rw [Nat.mul_one, Nat.zero_add]; exact hcell)) ?_
            refine JL.val (Run.assign rfl) ?_
            refine JL.to (fun _ _ h => h) ?_
            refine J.seq ?_
            refine J.region ?_    -- region 61
            refine JL.val (Run.move rfl) ?_
            refine JL.val (Run.assign rfl) ?_
            refine JL.to (fun _ _ h => h) ?_
            refine J.mid (ι := Unit) (fun _ => [(9, .int .i64 (md : Int)), (10, ptr va), (12, .int .i32 0), (14, e14), (15, e15), (20, .int .i32 (sI : Int)), (28, ptr mb), (29, plv), (30, .slice (some ⟨gx, 0, none⟩) xs.length pc25), (23, .slice (some ⟨gy, 0, none⟩) yst.length pc27), (31, .int .i32 ((prun take (prun take st1 (each (xs.take i) yst)) (one t (yst.take (j + 1)))).next : Int)), (32, ev3), (33, qv3), (34, sv3), (37, .int .i64 (st1.exp.length : Int)), (40, .bool take), (42, .int .i32 (t : Int)), (44, .int .i32 (u : Int)), (45, .int .i32 (if take then (t : Int) else (st2.next : Int))), (186, .slice (some ⟨gx, 0, none⟩) xs.length pc25), (187, .int .i64 (xs.length : Int)), (188, .int .i64 (i : Int)), (192, .slice (some ⟨gy, 0, none⟩) yst.length pc27), (193, .int .i64 (yst.length : Int)), (194, .int .i64 (j : Int))]) (fun _ w' => w' = w13) ?_ ?_
            · refine J.seq ?_
              refine J.region ?_    -- region 62
              refine JL.val (Run.move rfl) ?_
              refine JL.to (fun _ _ h => h) ?_
              by_cases htt : take = true
              · rw [if_pos htt] at e7
                refine J.condT rfl htt ?_
                refine J.region ?_    -- region 63
                refine JL.val (Run.move rfl) ?_
                refine JL.val (Run.assign rfl) ?_
                refine JL.nil fun a ha => ⟨(), ha.sub ⟨rfl, rfl, rfl, rfl, rfl, rfl, rfl, rfl, rfl, rfl, by rw [e7]; rfl, rfl, rfl, rfl, rfl, rfl, rfl, rfl, by rw [if_pos htt]; rfl, rfl, rfl, rfl, rfl, rfl, rfl, trivial⟩, rfl⟩
              · rw [if_neg htt] at e7
                refine J.condF rfl (by simpa using htt) ?_
                refine J.region ?_    -- region 64
                refine JL.val (Run.move rfl) ?_
                refine JL.val ((Run.addW rfl rfl).to (v' := .int .i32 ((prun take (prun take st1 (each (xs.take i) yst)) (one t (yst.take (j + 1)))).next : Int)) (by rw [wrap_id32 (by omega) (by omega), e7]; simp)) ?_
                refine JL.val (Run.assign rfl) ?_
                refine JL.nil fun a ha => ⟨(), ha.sub ⟨rfl, rfl, rfl, rfl, rfl, rfl, rfl, rfl, rfl, rfl, rfl, rfl, rfl, rfl, rfl, rfl, rfl, rfl, by rw [if_neg htt]; rfl, rfl, rfl, rfl, rfl, rfl, rfl, trivial⟩, rfl⟩
            rintro _ _ rfl
            refine J.seq ?_
            refine J.region ?_
            refine JL.val (Run.move rfl) ?_
            refine JL.val (Run.move rfl) ?_
            refine JL.val (Run.buildSlice rfl (buildSlice1 el22 rfl)) ?_
            refine JL.val (Run.append rfl rfl r1) ?_
            refine JL.val (Run.assign rfl) ?_
            refine JL.to (fun _ _ h => h) ?_
            refine J.seq ?_
            refine J.region ?_
            refine JL.val (Run.move rfl) ?_
            refine JL.val (Run.move rfl) ?_
            refine JL.val (Run.move rfl) ?_
            refine JL.val (Run.build rfl build54) ?_
            refine JL.val (Run.buildSlice rfl lit58) ?_
            refine JL.val (Run.append rfl rfl r2) ?_
            refine JL.val (Run.assign rfl) ?_
            refine JL.to (fun _ _ h => h) ?_
            refine J.region ?_
            refine JL.val (Run.move rfl) ?_
            refine JL.val (Run.move rfl) ?_
            refine JL.val (Run.buildSlice rfl (buildSlice1 el22 rfl)) ?_
            refine JL.val (Run.append rfl rfl r3) ?_
            refine JL.val (Run.assign rfl) ?_
            refine JL.to (fun _ _ h => h) ?_
            refine J.region ?_    -- region 68
            refine JL.val (Run.add (c := ((j + 1 : Nat) : Int)) rfl rfl (by omega) (by omega) (by omega)) ?_
            refine JL.val (Run.move rfl) ?_
            refine JL.nil fun a ha => ⟨(j + 1, h16, _, _, _), by simp only; omega, ha.sub ⟨rfl, rfl, rfl, rfl, rfl, rfl, rfl, rfl, rfl, rfl, rfl, rfl, rfl, rfl, rfl, rfl, rfl, rfl, rfl, rfl, rfl, rfl, rfl, trivial⟩, by simp only; omega, hlp4, fun k k1 k2 k3 => (hf16 k k1 k2 k3).trans (hf12 k k1 k2 k3)⟩
          · have hjl : j = yst.length := by have := of_decide_eq_false hc4; omega
            have e5 : each (xs.take (i + 1)) yst = each (xs.take i) yst ++ one t yst := by rw [take_get ht]; simp [each]
            rw [hjl, List.take_length, ← prun_append, ← e5] at hlp3 ⊢
            refine J.exitTo (fun _ _ h => h) ?_    -- exit 9
            refine J.region ?_    -- region 69
            refine JL.val (Run.add (c := ((i + 1 : Nat) : Int)) rfl rfl (by omega) (by omega) (by omega)) ?_
            refine JL.val (Run.move rfl) ?_
            refine JL.nil fun a ha => ⟨(i + 1, h12, ev3, qv3, sv3), by simp only; omega, ha.sub ⟨rfl, rfl, rfl, rfl, rfl, rfl, rfl, rfl, rfl, rfl, rfl, rfl, rfl, rfl, rfl, rfl, rfl, rfl, rfl, trivial⟩, by simp only; omega, hlp3, hf12⟩
        · have hil : i = xs.length := by have := of_decide_eq_false hc3; omega
          rw [hil, List.take_length] at hlp3 ⊢
          rw [← hfin] at hlp3 ⊢
          refine J.exit fun a ha => ⟨(h12, ev3, qv3, sv3), ha.sub ⟨rfl, rfl, rfl, rfl, rfl, rfl, rfl, rfl, rfl, rfl, rfl, rfl, rfl, rfl, trivial⟩, hlp3, hf12⟩
  rintro ⟨h11, ev2, qv2, sv2⟩ w11 ⟨hlp2, hf11⟩
  simp only at hlp2 hf11 ⊢
  -- what was built, compared
  have hFe := pfin_exp_le stsA.length yp yst xs take (by omega) (by omega) (by omega)
  have hFl := pfin_l_le stsA.length yp yst xs take (by omega) (by omega) (by omega)
  have hFn : ((pfin stsA.length yp yst xs take).l.map (·.1)).Nodup := by
    refine pfin_nodup ?_ ?_ ?_ ?_
    · rw [← hyp]; exact List.Pairwise.filter _ List.nodup_range
    · rw [← hyst]; exact List.Pairwise.filter _ List.nodup_range
    · rw [← hyp, ← hyst]; exact filter_apart _ _
    · rw [← hxsD]
      split
      · exact List.nodup_nil
      · exact List.Pairwise.filter _ (tsK_nodup _)
  have hste : st1.exp.length = yp.length := by omega
  generalize hF : pfin stsA.length yp yst xs take = F at *
  obtain ⟨ea2, ec2, hev2⟩ := hlp2.e.slice
  obtain ⟨qa2, qc2, hqv2⟩ := hlp2.q.slice
  obtain ⟨sa2, sc2, hsv2⟩ := hlp2.s.slice
  subst hev2
  subst hqv2
  subst hsv2
  refine J.seq ?_
  refine J.region ?_    -- region 81
  refine JL.val (Run.move rfl) ?_
  refine JL.val (Run.len Yba.underlying22 rfl) ?_
  refine JL.val (Run.move rfl) ?_
  refine JL.val (Run.sub (c := (F.exp.length : Int) - (st1.exp.length : Int)) rfl rfl rfl (by omega) (by omega)) ?_
  refine JL.val (Run.assign rfl) ?_
  refine JL.to (fun _ _ h => h) ?_
  have hnl : (nI pl).length = pl.length := by simp
  refine J.seq ?_
  refine J.region ?_    -- region 82
  refine JL.val (Run.move rfl) ?_
  refine JL.call rfl Yba.func20 rfl rfl ?_
  refine clone_calls (n := (24, 0)) (k := (33, 0)) (zs := nI pl) hlp2.hp (by rw [hnl]; exact hplv.keep (hf11 _ (by simp) (by simp) (by simp))) (by simp) (by omega) _ ?_
  intro w12 h12 v12 hp12 hs12 hf12
  refine ⟨_, rfl, ?_⟩
  obtain ⟨v13, w13, h13, hrun13, hp13, hs13, hf13⟩ := appendR (P := Yba.prog) (T := 22) hp12 el22 hs12 ((hlp2.e.keep (hf12 _ (by simp))).rd hp12) (by simp) (i32s_one _) (by omega) (by omega)
  refine JL.val (Run.move rfl) ?_
  refine JL.val (Run.append rfl rfl hrun13) ?_
  refine JL.val (Run.assign rfl) ?_
  refine JL.to (fun _ _ h => h) ?_
  have hk : ∀ k : Nat × Nat, k.1 ≠ 33 → h13 k = h11 k := fun k hk => by rw [hf13 k (fun e => by subst e; simp at hk), hf12 k (fun e => by subst e; simp at hk)]
  have hk9 : ∀ k : Nat × Nat, k.1 < 30 → h13 k = h9 k := fun k hk1 => by rw [hk k (by omega), hf11 k (by omega) (by omega) (by omega)]
  have hW : Sl h13 (33, 0) 21 1 v13 (nI pl ++ F.exp).length (i32s (nI pl ++ F.exp)) := by
    have e3 : i32s (nI pl ++ F.exp) = i32s (nI pl) ++ i32s F.exp := List.map_append
    rw [e3, List.length_append]
    exact hs13
  have hE := hlp2.e.keep (hk (30, 0) (by simp))
  have hQ := hlp2.q.keep (hk (31, 0) (by simp))
  have hSv := hlp2.s.keep (hk (32, 0) (by simp))
  have hLs : LsE h13 1 va stsF := hwe.le.keep fun n hn => hk9 n (by omega)
  obtain ⟨ss, hss, hstars, hseps⟩ := hwe.st
  have hseps := hseps.keep (hk9 _ (by simp only; split <;> omega))
  have hMg := hwe.mg.keep fun n hn => hk9 n (by omega)
  have hRm := hwe.rm.keep (hk9 _ (by simp))
  have hAd := hwe.ad.keep (hk9 _ (by simp))
  have hEp := hwe.ep.keep (hk9 _ (by simp))
  have hXs := hxsv.keep (hk9 _ (by simp))
  have h24 := hs24.keep (hk9 _ (by simp))
  have h25 := hs25.keep (hk9 _ (by simp))
  have hx0 := hwe.x0
  have hlenF := hwe.len
  obtain ⟨pm, mq, hm10, hm12, hm11⟩ := hMg.ex
  obtain ⟨ov, rows, hls, hrn⟩ := id hLs
  have hls1 := hls.var
  clear hls hrn hMg hwe hp12 hs12 hf12 hs13 hf13 hlp2 hf11 hrun13
  refine J.seq ?_
  refine J.seq ?_
  refine J.region ?_    -- region 83
  refine JL.val (Run.field fl44_0 rfl) ?_
  refine JL.val (Run.field fl42_1 rfl) ?_
  refine JL.val (Run.load t21 rfl (hp13.cell hls1 rfl)) ?_
  refine JL.val (Run.move rfl) ?_
  refine JL.val (Run.neq rfl rfl) ?_
  refine JL.to (fun _ _ h => h) ?_
  refine J.condF rfl (by simp [hlenF]) ?_
  refine J.skipTo (fun _ _ h => h) ?_
  refine J.seq ?_
  refine J.region ?_    -- region 85
  refine JL.val (Run.field fl44_0 rfl) ?_
  refine JL.val (Run.move rfl) ?_
  refine JL.call rfl Yba.func18 rfl rfl ?_
  refine at_calls hp13 hLs hss _ ?_
  intro rb cur hat
  refine ⟨_, rfl, ?_⟩
  refine JL.val (Run.assign rfl) ?_
  refine JL.to (fun _ _ h => h) ?_
  refine J.seq ?_
  refine J.seq ?_
  refine J.region ?_    -- region 86
  refine JL.val (Run.move rfl) ?_
  refine JL.val (Run.nil rfl) ?_
  refine JL.val (Run.field fl48_1 rfl) ?_
  refine JL.val (Run.load t22 rfl (hp13.cell hat.blk (hat.get 1 _ rfl))) ?_
  refine JL.val (Run.move rfl) ?_
  refine JL.call rfl Yba.func21 rfl rfl ?_
  refine equal_calls hp13 (by rw [List.length_append, hnl]; exact hseps) hW (by rw [List.length_append, hnl]; omega) _ ?_
  intro w14 hp14
  refine ⟨_, rfl, ?_⟩
  refine JL.val (Run.not rfl) ?_
  refine JL.val (Run.move rfl) ?_
  refine JL.gval rfl rfl (Run.move rfl) ?_
  refine JL.gval rfl rfl (Run.nil rfl) ?_
  refine JL.gval rfl rfl (Run.field fl48_4 rfl) ?_
  refine JL.gval rfl rfl (Run.load t21 rfl (hp14.cell hat.blk (hat.get 4 _ rfl))) ?_
  refine JL.gval rfl rfl (Run.move rfl) ?_
  refine JL.gval rfl rfl ((Run.convW Yba.underlying21 ⟨_, Yba.underlying3⟩ rfl).to (v' := .int .i32 ((F.exp.length : Int) - (st1.exp.length : Int))) (by rw [wrap_id32 (by omega) (by omega)])) ?_
  refine JL.gval rfl rfl ((Run.addW rfl rfl).to (v' := .int .i32 ((F.exp.length : Int) - (st1.exp.length : Int) + 1)) (by rw [wrap_id32 (by omega) (by omega)])) ?_
  refine JL.gval rfl rfl (Run.neq rfl rfl) ?_
  refine JL.val (Run.pickF rfl rfl) ?_
  refine JL.to (fun _ _ h => h) ?_
  have hst4 : ss.stars = (F.exp.length : Int) - (st1.exp.length : Int) + 1 := by rw [hstars, hste]
  refine J.condF rfl (by simp [hst4]) ?_
  refine J.skipTo (fun _ _ h => h) ?_
  refine J.seq ?_
  refine J.seq ?_
  refine J.region ?_    -- region 88
  refine JL.val (Run.move rfl) ?_
  refine JL.val (Run.nil rfl) ?_
  refine JL.val (Run.field fl60_7 rfl) ?_
  refine JL.val (Run.load t22 rfl (hp14.cell hm10 rfl)) ?_
  refine JL.val (Run.move rfl) ?_
  refine JL.call rfl Yba.func21 rfl rfl ?_
  refine equal_calls hp14 hEp hE (by omega) _ ?_
  intro w15 hp15
  refine ⟨_, rfl, ?_⟩
  refine JL.val (Run.not rfl) ?_
  refine JL.val (Run.move rfl) ?_
  refine JL.gval rfl rfl (Run.move rfl) ?_
  refine JL.gval rfl rfl (Run.nil rfl) ?_
  refine JL.gval rfl rfl (Run.field fl60_3 rfl) ?_
  refine JL.gval rfl rfl (Run.load t58 rfl (hp15.cell hm10 rfl)) ?_
  refine JL.gval rfl rfl (Run.move rfl) ?_
  refine JL.gcall rfl rfl rfl Yba.func22 rfl rfl ?_
  refine equalP_calls (zs := F.l.map (·.1)) hp15 (by rw [List.length_map]; exact hm11) (by rw [List.length_map]; exact hQ) (by rw [List.length_map]; omega) _ ?_
  intro w16 hp16
  refine ⟨_, rfl, ?_⟩
  refine JL.gval rfl rfl (Run.not rfl) ?_
  refine JL.val (Run.pickF rfl rfl) ?_
  refine JL.to (fun _ _ h => h) ?_
  refine J.condF rfl rfl ?_
  refine J.skipTo (fun _ _ h => h) ?_
  refine J.seq ?_
  refine J.seq ?_
  refine J.region ?_    -- region 90
  refine JL.val (Run.move rfl) ?_
  refine JL.val (Run.nil rfl) ?_
  refine JL.val (Run.field fl60_2 rfl) ?_
  refine JL.val (Run.load t57 rfl (hp16.cell hm10 rfl)) ?_
  refine JL.val (Run.lenMap rfl (hp16.get hm12)) ?_
  refine JL.val (Run.move rfl) ?_
  refine JL.val (Run.len Yba.underlying58 rfl) ?_
  refine JL.val (Run.neq rfl rfl) ?_
  refine JL.to (fun _ _ h => h) ?_
  refine J.condF rfl (by simp) ?_
  refine J.skipTo (fun _ _ h => h) ?_
  clear hls1 hat hEp hm11
  refine J.seq ?_
  refine J.seq ?_
  refine J.region ?_    -- region 92
  refine JL.val (Run.move rfl) ?_
  refine JL.val (Run.len Yba.underlying58 rfl) ?_
  refine JL.val (Run.move rfl) ?_
  refine JL.to (fun _ _ h => h) ?_
  refine J.block ?_
  refine J.loop (ι := Nat) (fun i => [(9, .int .i64 (md : Int)), (10, ptr va), (12, .int .i32 0), (14, e14), (15, e15), (28, ptr mb), (30, xsv), (32, .slice ea2 F.exp.length ec2), (33, .slice qa2 F.l.length qc2), (34, .slice sa2 F.l.length sc2), (47, v13), (310, .int .i64 (F.l.length : Int)), (311, .int .i64 (i : Int))])
    (fun i w' => i ≤ F.l.length ∧ Hp w w' h13) (fun i => F.l.length - i) 0 ⟨rfl, rfl, rfl, rfl, rfl, rfl, rfl, rfl, rfl, rfl, rfl, rfl, rfl, trivial⟩ ⟨by omega, hp16⟩ ?_
  clear hp13 hp14 hp15 hp16
  rintro i w17 ⟨hi, hp17⟩
  refine J.seq ?_
  refine J.region ?_    -- region 93
  refine JL.val (Run.lss rfl rfl) ?_
  refine JL.to (fun _ _ h => h) ?_
  refine J.seq ?_
  refine J.cond rfl (fun hc => ?_) (fun hc => ?_)
  · have hil : i < F.l.length := by have := of_decide_eq_true hc; omega
    clear hc
    obtain ⟨⟨⟨px1, py1⟩, pz1⟩, hz⟩ : ∃ z, F.l[i]? = some z := ⟨F.l[i], List.getElem?_eq_getElem hil⟩
    obtain ⟨hz1, hz2⟩ := pairs_get (F.l.map (·.1)) i (px1, py1) (by rw [List.getElem?_map, hz]; rfl)
    simp only at hz1 hz2
    obtain ⟨qg, qq, hqe, _⟩ := hQ.cell hp17 hz1
    cases hqe
    obtain ⟨sg, sq, hse, _⟩ := hSv.cell hp17 (i := i) (u := .int .i32 pz1) (by simp [hz])
    cases hse
    have hS := hp17.drew
    have hld : ∀ x : World, Hp w x h13 → ∀ j u, [Value.int .i32 px1, .int .i32 py1][j]? = some u → x.cell? ⟨qg, 0 + i * 2 + j, none⟩ = some u := fun x hx j u hj => by
      rw [Nat.zero_add]
      match j, hj with
      | 0, hj =>
        obtain ⟨g', c', he, hc⟩ := hQ.cell hx hz1
        cases he
        simp at hj
        rw [← hj]
        exact hc
      | 1, hj =>
        obtain ⟨g', c', he, hc⟩ := hQ.cell hx hz2
        cases he
        simp at hj
        rw [← hj]
        exact hc
      | j + 2, hj => simp at hj
    have hmem : ((px1, py1), pz1) ∈ F.l := List.mem_of_getElem? hz
    have huq : ∀ e ∈ F.l, e.1 = (px1, py1) → e.2 = pz1 := fun e he hee => by rw [uniq_key hFn he hmem hee]
    refine J.skipTo (fun _ _ h => h) ?_
    refine J.seq ?_
    refine J.block ?_
    refine J.seq ?_
    refine J.region ?_    -- region 94
    refine JL.val (Run.move rfl) ?_
    refine JL.val (Run.assign rfl) ?_
    refine JL.to (fun _ _ h => h) ?_
    refine J.seq ?_
    -- region 95 draws
    refine J.draw (fun x => Hp w x h13) 14 [(0, true), (1, true), (2, true), (3, true), (4, true), (5, true), (6, true), (7, true), (8, true), (9, true), (10, true), (11, true), (12, true), (13, true)] (by kernel_rfl) (by kernel_rfl) ?_
    refine JS.take (i := 0) rfl hS (fun w' hw' => Run.move rfl) ?_
    refine JS.take (i := 1) rfl hS (fun w' hw' => Run.nil rfl) ?_
    refine JS.take (i := 2) rfl hS (fun w' hw' => Run.field fl60_2 rfl) ?_
    refine JS.take (i := 3) rfl hS (fun w' hw' => Run.load t57 rfl (hw'.cell hm10 rfl)) ?_
    refine JS.take (i := 4) rfl hS (fun w' hw' => Run.move rfl) ?_
    refine JS.take (i := 5) rfl hS (fun w' hw' => Run.move rfl) ?_
    refine JS.take (i := 6) rfl hS (fun w' hw' => Run.index Yba.underlying58 c54 (by decide) rfl rfl hil) ?_
    refine JS.take (i := 7) rfl hS (fun w' hw' => Run.loadA (cs := [.int .i32 px1, .int .i32 py1]) ta54 rfl (hld w' hw')) ?_
    refine JS.take (i := 8) rfl hS (fun w' hw' => Run.lookSome rfl rfl (hw'.get hm12) hmem huq) ?_
    refine JS.take (i := 9) rfl hS (fun w' hw' => Run.move rfl) ?_
    refine JS.take (i := 10) rfl hS (fun w' hw' => Run.extract (v := .int .i32 pz1) rfl rfl) ?_
    refine JS.take (i := 11) rfl hS (fun w' hw' => Run.extract (v := .bool true) rfl rfl) ?_
    refine JS.take (i := 12) rfl hS (fun w' hw' => Run.assign rfl) ?_
    refine JS.take (i := 13) rfl hS (fun w' hw' => Run.assign rfl) ?_
    refine JS.to (fun _ _ h => h) ?_
    obtain ⟨sg', sq', hse, hsc⟩ := hSv.cell hS (i := i) (u := .int .i32 pz1) (by simp [hz])
    cases hse
    refine J.seq ?_
    refine J.region ?_    -- region 96
    refine JL.val (Run.move rfl) ?_
    refine JL.val (Run.not rfl) ?_
    refine JL.val (Run.move rfl) ?_
    refine JL.gval rfl rfl (Run.move rfl) ?_
    refine JL.gval rfl rfl (Run.move rfl) ?_
    refine JL.gval rfl rfl (Run.move rfl) ?_
    refine JL.gval rfl rfl (Run.index Yba.underlying22 c21 (by decide) rfl rfl hil) ?_
    refine JL.gval rfl rfl (Run.load t21 rfl (by rw [Nat.mul_one, Nat.zero_add]; exact hsc)) ?_
    refine JL.gval rfl rfl (Run.neq rfl rfl) ?_
    refine JL.val (Run.pickF rfl rfl) ?_
    refine JL.to (fun _ _ h => h) ?_
    refine J.condF rfl (by simp) ?_
    refine J.skipTo (fun _ _ h => h) ?_
    refine J.region ?_    -- region 98
    refine JL.val (Run.add (c := ((i + 1 : Nat) : Int)) rfl rfl (by omega) (by omega) (by omega)) ?_
    refine JL.val (Run.move rfl) ?_
    refine JL.nil fun a ha => ⟨i + 1, by omega, ha.sub ⟨rfl, rfl, rfl, rfl, rfl, rfl, rfl, rfl, rfl, rfl, rfl, rfl, rfl, trivial⟩, by omega, hS⟩
  clear hc
  refine J.exitTo (fun _ _ h => h) ?_    -- exit 13
  clear hi
  have hnR : xs.length = (nI xs).length := by simp
  refine J.mid (ι := Unit) (fun _ => [(9, .int .i64 (md : Int)), (10, ptr va), (12, .int .i32 0), (14, e14), (15, e15)]) (fun _ w' => Hp w w' h13) ?_ ?_
  · refine J.seq ?_
    refine J.region ?_    -- region 99
    refine JL.val (Run.move rfl) ?_
    refine JL.val (Run.eql rfl rfl) ?_
    refine JL.to (fun _ _ h => h) ?_
    by_cases hm2 : md = 2
    · have hps := hsI2.2 hm2
      rw [if_pos hps, if_pos hps] at hRm hAd
      refine J.condT rfl (by simp [hm2]) ?_
      refine J.seq ?_
      refine J.region ?_    -- region 100
      refine JL.val (Run.move rfl) ?_
      refine JL.val (Run.nil rfl) ?_
      refine JL.val (Run.field fl60_4 rfl) ?_
      refine JL.val (Run.load t22 rfl (hp17.cell hm10 rfl)) ?_
      refine JL.val (Run.move rfl) ?_
      refine JL.call rfl Yba.func21 rfl rfl ?_
      refine equal_calls (zs := nI xs) hp17 (by rw [← hnR]; exact hRm) (by rw [← hnR]; exact hXs) (by omega) _ ?_
      intro w18 hp18
      refine ⟨_, rfl, ?_⟩
      refine JL.val (Run.not rfl) ?_
      refine JL.val (Run.move rfl) ?_
      refine JL.gval rfl rfl (Run.move rfl) ?_
      refine JL.gval rfl rfl (Run.nil rfl) ?_
      refine JL.gval rfl rfl (Run.field fl60_5 rfl) ?_
      refine JL.gval rfl rfl (Run.load t22 rfl (hp18.cell hm10 rfl)) ?_
      refine JL.gval rfl rfl (Run.move rfl) ?_
      refine JL.gcall rfl rfl rfl Yba.func21 rfl rfl ?_
      refine equal_calls hp18 hAd hE (by omega) _ ?_
      intro w19 hp19
      refine ⟨_, rfl, ?_⟩
      refine JL.gval rfl rfl (Run.not rfl) ?_
      refine JL.val (Run.pickF rfl rfl) ?_
      refine JL.to (fun _ _ h => h) ?_
      refine J.condF rfl rfl ?_
      refine J.skip fun a ha => ⟨(), ha.sub ⟨rfl, rfl, rfl, rfl, rfl, trivial⟩, hp19⟩
    · have hps : ¬ px = (sI : Int) := fun e => hm2 (hsI2.1 e)
      rw [if_neg hps, if_neg hps] at hRm hAd
      obtain ⟨ra, rc, hrv⟩ := hRm.slice
      subst hrv
      refine J.condF rfl (by simp; omega) ?_
      refine J.seq ?_
      refine J.region ?_    -- region 102
      refine JL.val (Run.move rfl) ?_
      refine JL.val (Run.nil rfl) ?_
      refine JL.val (Run.field fl60_4 rfl) ?_
      refine JL.val (Run.load t22 rfl (hp17.cell hm10 rfl)) ?_
      refine JL.val (Run.len Yba.underlying22 rfl) ?_
      refine JL.val ((Run.neq rfl rfl).to (v' := .bool false) rfl) ?_
      refine JL.val (Run.move rfl) ?_
      refine JL.gval rfl rfl (Run.move rfl) ?_
      refine JL.gval rfl rfl (Run.nil rfl) ?_
      refine JL.gval rfl rfl (Run.field fl60_5 rfl) ?_
      refine JL.gval rfl rfl (Run.load t22 rfl (hp17.cell hm10 rfl)) ?_
      refine JL.gval rfl rfl (Run.move rfl) ?_
      refine JL.gcall rfl rfl rfl Yba.func21 rfl rfl ?_
      refine equal_calls hp17 (by rw [List.length_append, hnl]; exact hAd) hW (by rw [List.length_append, hnl]; omega) _ ?_
      intro w19 hp19
      refine ⟨_, rfl, ?_⟩
      refine JL.gval rfl rfl (Run.not rfl) ?_
      refine JL.val (Run.pickF rfl rfl) ?_
      refine JL.to (fun _ _ h => h) ?_
      refine J.condF rfl rfl ?_
      refine J.skip fun a ha => ⟨(), ha.sub ⟨rfl, rfl, rfl, rfl, rfl, trivial⟩, hp19⟩
  clear hp17
  rintro _ w17 hp17
  refine J.mid (ι := Unit) (fun _ => []) (fun _ w' => Below w.heap.size w w') ?_ ?_
  · refine J.seq ?_
    refine J.region ?_    -- region 104
    refine JL.val (Run.move rfl) ?_
    refine JL.val (Run.eql rfl rfl) ?_
    refine JL.to (fun _ _ h => h) ?_
    by_cases hm1 : md = 1
    · refine J.condT rfl (by simp [hm1]) ?_
      have hpn : ¬ px = -1 := fun e => by have := hpmd.1 e; omega
      have hp0 : px = 0 := by rcases hpx2 with e | e; exact absurd e hpn; exact e
      obtain ⟨sx0, hsx0, hsxs, hsxe⟩ := hx0 hp0 (fun e => by have := hsI2.1 e; omega)
      have hsxe := hsxe.keep (hk9 _ (by simp))
      rw [if_neg hpn] at hplD hxsD
      rw [hplD] at h24
      rw [hxsD] at h25
      have hpxl : (nI (pl ++ xs)).length = pl.length + xs.length := by simp
      obtain ⟨fa, fc, hfv⟩ := h25.slice
      refine J.seq ?_
      refine J.region ?_    -- region 105
      refine JL.val (Run.field fl44_0 rfl) ?_
      refine JL.val (Run.move rfl) ?_
      refine JL.call rfl Yba.func18 rfl rfl ?_
      refine at_calls (i := 0) hp17 hLs hsx0 _ ?_
      intro rb cur hat
      refine ⟨_, rfl, ?_⟩
      refine JL.val (Run.assign rfl) ?_
      refine JL.to (fun _ _ h => h) ?_
      have hSof : ∀ (x : World) (hh : Hn), Hp w x hh → (∀ k : Nat × Nat, k.1 ≠ 40 → hh k = h13 k) → x.cell? ⟨rb, 0 % 16384 * 5 + 1, none⟩ = some sx0.ep ∧ x.cell? ⟨rb, 0 % 16384 * 5 + 4, none⟩ = some (.int .i32 sx0.stars) := fun x hh hx hke =>
        ⟨hx.cell ((hke _ (by simp)).trans hat.blk) (hat.get 1 _ rfl), hx.cell ((hke _ (by simp)).trans hat.blk) (hat.get 4 _ rfl)⟩
      have hS := hSof _ _ hp17.drew (fun _ _ => rfl)
      refine J.seq ?_
      -- region 106 draws
      refine J.draw (fun x => x.cell? ⟨rb, 0 % 16384 * 5 + 1, none⟩ = some sx0.ep ∧ x.cell? ⟨rb, 0 % 16384 * 5 + 4, none⟩ = some (.int .i32 sx0.stars)) 21 [(0, true), (1, true), (2, true), (3, true), (4, true), (6, true), (5, false), (7, false), (8, false), (9, true), (10, true), (11, true), (12, true), (13, true), (14, true), (15, true), (16, true), (17, true), (18, true), (19, true), (20, true)] (by kernel_rfl) (by kernel_rfl) ?_
      refine JS.take (i := 0) rfl hS (fun w' hw' => Run.move rfl) ?_
      refine JS.take (i := 1) rfl hS (fun w' hw' => Run.nil rfl) ?_
      refine JS.take (i := 2) rfl hS (fun w' hw' => Run.field fl48_1 rfl) ?_
      refine JS.take (i := 3) rfl hS (fun w' hw' => Run.load t22 rfl hw'.1) ?_
      refine JS.take (i := 4) rfl hS (fun w' hw' => Run.move rfl) ?_
      refine JS.take (i := 6) rfl hS (fun w' hw' => Run.move rfl) ?_
      refine JS.call (i := 5) rfl rfl Yba.func20 rfl rfl ?_
      refine clone_calls (n := (24, 0)) (k := (40, 0)) (zs := nI pl) hp17.drew (by rw [hnl]; exact h24) (by simp) (by omega) _ ?_
      intro w18 h18 v18 hp18 hs18 hf18
      have hke18 : ∀ k : Nat × Nat, k.1 ≠ 40 → h18 k = h13 k := fun k hk => hf18 k (fun e => by subst e; simp at hk)
      have hS18 := hSof _ _ hp18 hke18
      refine ⟨_, rfl, fun _ => hS18, ?_⟩
      obtain ⟨v19, w19, h19, hrun19, hp19, hs19, hf19⟩ := appendR (P := Yba.prog) (T := 22) hp18 el22 hs18 ((h25.keep (hke18 _ (by simp))).rd hp18) (by simp) (i32s_one _) (by omega) (by omega)
      have hke19 : ∀ k : Nat × Nat, k.1 ≠ 40 → h19 k = h13 k := fun k hk => by rw [hf19 k (fun e => by subst e; simp at hk)]; exact hke18 k hk
      have hS19 := hSof _ _ hp19 hke19
      refine JS.loud (i := 7) rfl (Run.append rfl rfl hrun19) (fun _ => hS19) ?_
      have hW19 : Sl h19 (40, 0) 21 1 v19 (nI (pl ++ xs)).length (i32s (nI (pl ++ xs))) := by
        have e3 : i32s (nI (pl ++ xs)) = i32s (nI pl) ++ i32s (nI xs) := by simp
        rw [e3, hpxl, ← hnl]
        exact hs19
      refine JS.call (i := 8) rfl rfl Yba.func21 rfl rfl ?_
      refine equal_calls (zs := nI (pl ++ xs)) hp19 (by rw [hpxl]; exact hsxe.keep (hke19 _ (by simp))) hW19 (by omega) _ ?_
      intro w20 hp20
      have hS20 := hSof _ _ hp20 hke19
      refine ⟨_, rfl, fun _ => hS20, ?_⟩
      refine JS.take (i := 9) rfl hS20 (fun w' hw' => Run.not rfl) ?_
      refine JS.take (i := 10) rfl hS20 (fun w' hw' => Run.move rfl) ?_
      refine JS.gtake (i := 11) rfl rfl rfl hS20 (fun w' hw' => Run.move rfl) ?_
      refine JS.gtake (i := 12) rfl rfl rfl hS20 (fun w' hw' => Run.nil rfl) ?_
      refine JS.gtake (i := 13) rfl rfl rfl hS20 (fun w' hw' => Run.field fl48_4 rfl) ?_
      refine JS.gtake (i := 14) rfl rfl rfl hS20 (fun w' hw' => Run.load t21 rfl hw'.2) ?_
      refine JS.gtake (i := 15) rfl rfl rfl hS20 (fun w' hw' => Run.move rfl) ?_
      refine JS.gtake (i := 16) rfl rfl rfl hS20 (fun w' hw' => Run.len Yba.underlying22 (by rw [← hfv]; rfl)) ?_
      refine JS.gtake (i := 17) rfl rfl rfl hS20 (fun w' hw' => (Run.convW Yba.underlying21 ⟨_, Yba.underlying3⟩ rfl).to (v' := .int .i32 (xs.length : Int)) (by rw [wrap_id32 (by omega) (by omega)])) ?_
      refine JS.gtake (i := 18) rfl rfl rfl hS20 (fun w' hw' => (Run.addW rfl rfl).to (v' := .int .i32 ((xs.length : Int) + 1)) (by rw [wrap_id32 (by omega) (by omega)])) ?_
      refine JS.gtake (i := 19) rfl rfl rfl hS20 (fun w' hw' => Run.neq rfl rfl) ?_
      refine JS.take (i := 20) rfl hS20 (fun w' hw' => Run.pickF rfl rfl) ?_
      refine JS.to (fun _ _ h => h) ?_
      refine J.condF rfl (by simp [hsxs]) ?_
      refine J.skip fun a ha => ⟨(), ha.sub trivial, hp20.bel⟩
    · refine J.condF rfl (by simp; omega) ?_
      refine J.skip fun a ha => ⟨(), ha.sub trivial, hp17.bel⟩
  rintro _ w21 hb21
  refine J.seq ?_
  refine J.region ?_    -- region 108
  refine JL.val (Run.assign rfl) ?_
  refine JL.to (fun _ _ h => h) ?_
  refine J.ret1 Yba.f6 R (fun _ _ h => h) rfl rfl ?_
  exact hR _ hb21
end Go.Proofs.Ybulkpgu
