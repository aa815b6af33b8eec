/-
  starsLast: the stars among a state's targets are put last, in place.
-/
import Derived.Test.YbulkpguClone
namespace Go.Proofs.Ybulkpgu
open Go.Fw Go.RowKit
attribute [local simp] Go.Fw.stl_size Go.Fw.sto_size

def starAt (sts : List Sv) (t : Nat) : Bool := match sts[t]? with | some s => s.star | none => false
theorem starAt_of {sts : List Sv} {t : Nat} {s : Sv} (h : sts[t]? = some s) : starAt sts t = s.star := by simp [starAt, h]

abbrev nI (xs : List Nat) : List Int := xs.map fun x : Nat => ((x : Nat) : Int)

theorem filter_snoc {α : Type} (p : α → Bool) {xs : List α} {i : Nat} {x : α} (h : xs[i]? = some x) : (xs.take (i + 1)).filter p = (xs.take i).filter p ++ (if p x then [x] else []) := by
  rw [List.take_add_one, h, List.filter_append]
  by_cases hp : p x
  · simp [hp]
  · simp [hp]

theorem filter_sum {α : Type} (p : α → Bool) (l : List α) : (l.filter (fun t => !p t)).length + (l.filter p).length = l.length := by
  induction l with
  | nil => rfl
  | cons x l ih =>
    by_cases hp : p x
    · simp [hp]; omega
    · simp [hp]; omega

/-- What starsLast leaves alone. -/
def FrL (h h' : Hn) : Prop := ∀ n : Nat × Nat, n.1 ≠ 2 → n.1 ≠ 20 → n.1 ≠ 97 → h' n = h n

set_option maxRecDepth 100000
theorem last_calls {w0 w : World} {h : Hn} {va i : Nat} {sts : List Sv} {s : Sv} {ts : List Nat} (hp : Hp w0 w h) (hle : LsE h 1 va sts) (hi : sts[i]? = some s) (hst : s.stars = 0)
    (hep : Sl h (20, 0) 21 1 s.ep ts.length (i32s (nI ts))) (hts : ∀ t ∈ ts, t < sts.length) (htl : ts.length ≤ 100000)
    (R : Ending → World → Prop)
    (hR : ∀ w' h' ev', Hp w0 w' h' → LsE h' 1 va (sts.set i ⟨s.star, s.ed, ev', s.indeg, (((ts.filter (starAt sts)).length + 1 : Nat) : Int)⟩) → Sl h' (20, 0) 21 1 ev' ts.length (i32s (nI (ts.filter (fun t => !starAt sts t) ++ ts.filter (starAt sts)))) → FrL h h' → R (.returned (.int .i64 ((ts.filter (starAt sts)).length : Int))) w') :
    Calls Yba.prog 28 #[ptr va, .int .i32 (i : Int)] w R := by
  have hil : i < sts.length := (List.getElem?_eq_some_iff.1 hi).1
  refine calls (args := [_, _]) (m := 2) Yba.func28 rfl rfl rfl (by decide) ?_
  refine J.seq ?_
  refine J.region ?_    -- region 0
  refine JL.val (Run.assign rfl) ?_
  refine JL.to (fun _ _ h => h) ?_
  refine J.seq ?_
  refine J.region ?_    -- region 1
  refine JL.val (Run.move rfl) ?_
  refine JL.val (Run.nil rfl) ?_
  refine JL.val (Run.field fl44_0 rfl) ?_
  refine JL.val (Run.move rfl) ?_
  refine JL.call rfl Yba.func18 rfl rfl ?_
  refine at_calls hp hle hi _ ?_
  intro rb cur hat
  refine ⟨_, rfl, ?_⟩
  refine JL.val (Run.assign rfl) ?_
  refine JL.to (fun _ _ h => h) ?_
  have hc1 : w.cell? ⟨rb, i % 16384 * 5 + 1, none⟩ = some s.ep := hp.cell hat.blk (hat.get 1 s.ep rfl)
  have hc4 : w.cell? ⟨rb, i % 16384 * 5 + 4, none⟩ = some (.int .i32 0) := hp.cell hat.blk (by have := hat.get 4 (.int .i32 s.stars) rfl; rwa [hst] at this)
  obtain ⟨ea, ec, hev⟩ := hep.slice
  -- what the if leaves
  refine J.mid (ι := Hn × Value × List Value) (fun x => [(5, .pointer (some ⟨rb, i % 16384 * 5, none⟩))])
    (fun x w' => Hp w0 w' x.1 ∧ LsE x.1 1 va (sts.set i ⟨s.star, s.ed, x.2.1, s.indeg, (((ts.filter (starAt sts)).length + 1 : Nat) : Int)⟩) ∧ At x.1 1 i ⟨s.star, s.ed, x.2.1, s.indeg, (((ts.filter (starAt sts)).length + 1 : Nat) : Int)⟩ rb x.2.2 ∧
      Sl x.1 (20, 0) 21 1 x.2.1 ts.length (i32s (nI (ts.filter (fun t => !starAt sts t) ++ ts.filter (starAt sts)))) ∧ FrL h x.1) ?_ ?_
  · refine J.seq ?_
    refine J.region ?_    -- region 2
    refine JL.val (Run.move rfl) ?_
    refine JL.val (Run.nil rfl) ?_
    refine JL.val (Run.field fl48_4 rfl) ?_
    refine JL.val (Run.load t21 rfl hc4) ?_
    refine JL.val (Run.eql rfl rfl) ?_
    refine JL.to (fun _ _ h => h) ?_
    refine J.condT rfl (by simp) ?_
    refine J.seq ?_
    refine J.region ?_    -- region 3
    refine JL.val (Run.assign rfl) ?_
    refine JL.to (fun _ _ h => h) ?_
    refine J.seq ?_
    refine J.region ?_    -- region 4
    refine JL.val (Run.move rfl) ?_
    refine JL.val (Run.nil rfl) ?_
    refine JL.val (Run.field fl48_1 rfl) ?_
    refine JL.val (Run.load t22 rfl (hev ▸ hc1)) ?_
    refine JL.val (Run.sliceHi (h := 0) Yba.underlying22 c21 (by decide) rfl rfl (by omega)) ?_
    refine JL.val (Run.assign rfl) ?_
    refine JL.to (fun _ _ h => h) ?_
    refine J.seq ?_
    refine J.seq ?_
    refine J.region ?_    -- region 5
    refine JL.val (Run.move rfl) ?_
    refine JL.val (Run.nil rfl) ?_
    refine JL.val (Run.field fl48_1 rfl) ?_
    refine JL.val (Run.load t22 rfl (hev ▸ hc1)) ?_
    refine JL.val (Run.len Yba.underlying22 rfl) ?_
    refine JL.val (Run.move rfl) ?_
    refine JL.to (fun _ _ h => h) ?_
    refine J.block ?_
    -- the block of the targets, where there is one
    have hblk : ∃ cur0 : List Value, cur0.length = ec ∧ ts.length ≤ ec ∧ cur0.take ts.length = i32s (nI ts) ∧ (ea = none ∧ ec = 0 ∧ ts = [] ∨ ∃ g, ea = some ⟨g, 0, none⟩ ∧ h (20, 0) = some (g, cellsO cur0 21)) ∧ ec ≤ maxLen := by
      rcases hep.2 with ⟨h1, h2⟩ | ⟨g, cap, cur0, h1, h2, h3, h3', h4, h5⟩
      · rw [hev] at h1
        simp only [Value.slice.injEq] at h1
        have hz : ts = [] := List.eq_nil_of_length_eq_zero h2
        subst hz
        exact ⟨[], by simp [h1.2.2], by simp, by simp, .inl ⟨h1.1, h1.2.2, rfl⟩, by rw [h1.2.2]; unfold maxLen; omega⟩
      · rw [hev] at h1
        simp only [Value.slice.injEq, true_and] at h1
        obtain ⟨rfl, rfl⟩ := h1
        exact ⟨cur0, by simpa using h4, h3, by simpa using h5, .inr ⟨g, rfl, h2⟩, h3'⟩
    obtain ⟨cur0, hcl, htc, htk, hwh, hmx⟩ := hblk
    refine J.loop (ι := Nat × Hn × List Value × Value)
      (fun x => [(0, ptr va), (5, .pointer (some ⟨rb, i % 16384 * 5, none⟩)), (6, x.2.2.2), (7, .slice ea ((ts.take x.1).filter (fun t => !starAt sts t)).length ec), (28, .slice ea ts.length ec), (29, .int .i64 (ts.length : Int)), (30, .int .i64 (x.1 : Int))])
      (fun x w' => x.1 ≤ ts.length ∧ Hp w0 w' x.2.1 ∧ x.2.2.1.length = ec ∧ x.2.2.1.take ((ts.take x.1).filter (fun t => !starAt sts t)).length = i32s (nI ((ts.take x.1).filter (fun t => !starAt sts t))) ∧ (∀ q, x.1 ≤ q → x.2.2.1[q]? = cur0[q]?) ∧
        (ea = none ∧ ec = 0 ∧ ts = [] ∨ ∃ g, ea = some ⟨g, 0, none⟩ ∧ x.2.1 (20, 0) = some (g, cellsO x.2.2.1 21)) ∧ Sl x.2.1 (97, 0) 21 1 x.2.2.2 ((ts.take x.1).filter (starAt sts)).length (i32s (nI ((ts.take x.1).filter (starAt sts)))) ∧
        ∀ n : Nat × Nat, n.1 ≠ 20 → n.1 ≠ 97 → x.2.1 n = h n)
      (fun x => ts.length - x.1) (0, h, cur0, .slice none 0 0) ⟨rfl, rfl, rfl, rfl, rfl, rfl, rfl, trivial⟩ ⟨by omega, hp, hcl, by simp, fun _ _ => rfl, hwh, Sl.nil _ _ _ _, fun _ _ _ => rfl⟩ ?_
    rintro ⟨j, h1, cu, sv1⟩ w1 ⟨hj, hp1, hcul, hcut, hcuq, hwh1, hsl, hf1⟩
    simp only at hj hp1 hcul hcut hcuq hwh1 hsl hf1 ⊢
    have hle1 : LsE h1 1 va sts := hle.keep fun n hn => hf1 n (by omega) (by omega)
    have hat1 : At h1 1 i s rb cur := hat.keep (hf1 _ (by simp) (by simp))
    refine J.seq ?_
    refine J.region ?_    -- region 6
    refine JL.val (Run.lss rfl rfl) ?_
    refine JL.to (fun _ _ h => h) ?_
    refine J.seq ?_
    refine J.cond rfl (fun hc => ?_) (fun hc => ?_)
    · have hjl : j < ts.length := by have := of_decide_eq_true hc; omega
      clear hc
      obtain ⟨t, ht⟩ : ∃ t, ts[j]? = some t := ⟨ts[j], List.getElem?_eq_getElem hjl⟩
      have htn := hts t (List.mem_of_getElem? ht)
      obtain ⟨st, hst2⟩ : ∃ st, sts[t]? = some st := ⟨sts[t], List.getElem?_eq_getElem htn⟩
      rcases hwh1 with ⟨_, _, h0⟩ | ⟨g, hg, hgb⟩
      · rw [h0] at hjl; simp at hjl
      subst hg
      have hcj : cu[j]? = some (.int .i32 (t : Int)) := by
        rw [hcuq j (by omega)]
        have : (cur0.take ts.length)[j]? = some (.int .i32 (t : Int)) := by rw [htk]; simp [ht]
        rwa [List.getElem?_take_of_lt hjl] at this
      have hpl : ((ts.take j).filter (fun t => !starAt sts t)).length ≤ j := by
        have := List.length_filter_le (fun t => !starAt sts t) (ts.take j)
        simp at this
        omega
      refine J.skipTo (fun _ _ h => h) ?_
      refine J.seq ?_
      refine J.block ?_
      refine J.seq ?_
      refine J.region ?_    -- region 7
      refine JL.val (Run.index Yba.underlying22 c21 (by decide) rfl rfl hjl) ?_
      refine JL.val (Run.load t21 rfl (by rw [Nat.mul_one, Nat.zero_add]; exact hp1.cell hgb hcj)) ?_
      refine JL.val (Run.assign rfl) ?_
      refine JL.to (fun _ _ h => h) ?_
      refine J.seq ?_
      refine J.region ?_    -- region 8
      refine JL.val (Run.move rfl) ?_
      refine JL.val (Run.move rfl) ?_
      refine JL.call rfl Yba.func45 rfl rfl ?_
      refine loops_calls hp1 hle1 hst2 _ ?_
      intro w2 hp2
      refine ⟨_, rfl, ?_⟩
      have hlit := hp2.alloc (.cells [.int .i32 (t : Int)].toArray 21)
      have hnew : Blk (w2.alloc (.cells [.int .i32 (t : Int)].toArray 21)) w2.heap.size 21 [.int .i32 (t : Int)] := Blk.new _ _ _
      have hsa : starAt sts t = st.star := starAt_of hst2
      cases hstar : st.star with
      | true =>
        rw [hstar] at hsa
        refine JL.val ((Run.gtr rfl rfl).to (v' := .bool true) (by simp)) ?_
        refine JL.to (fun _ _ h => h) ?_
        refine J.condT rfl rfl ?_
        obtain ⟨b5, cap5, w5, cur5, hrun, hp5, hs5⟩ := Hp.append (P := Yba.prog) (T := 22) (ad := ⟨w2.heap.size, 0, none⟩) (m := 1) (c := 1) (news := [.int .i32 (t : Int)]) hlit el22 hsl (by simp)
          (fun q u hq => by rw [addr_add, Nat.zero_add]; exact hnew.cell hq) (by simp [Value.oneCell']) (by omega) (by
            have := List.length_filter_le (starAt sts) (ts.take j)
            simp at this
            omega) (by omega)
        obtain ⟨a6, c6, hv6⟩ := hsl.slice
        refine J.region ?_    -- region 9
        refine JL.val (Run.move rfl) ?_
        refine JL.val (Run.move rfl) ?_
        refine JL.val (Run.buildSlice rfl (buildSlice1 el22 rfl)) ?_
        refine JL.val (Run.append rfl rfl hrun) ?_
        refine JL.val (Run.assign rfl) ?_
        refine JL.to (fun _ _ h => h) ?_
        refine J.region ?_    -- region 11
        refine JL.val (Run.add (c := ((j + 1 : Nat) : Int)) rfl rfl (by omega) (by omega) (by omega)) ?_
        refine JL.val (Run.move rfl) ?_
        have e1 : (ts.take (j + 1)).filter (fun t => !starAt sts t) = (ts.take j).filter (fun t => !starAt sts t) := by rw [filter_snoc _ ht]; simp [hsa]
        have e2 : (ts.take (j + 1)).filter (starAt sts) = (ts.take j).filter (starAt sts) ++ [t] := by rw [filter_snoc _ ht]; simp [hsa]
        refine JL.nil fun a ha => ⟨(j + 1, hup h1 (97, 0) (some (b5, cellsO cur5 21)), cu, .slice (some ⟨b5, 0, none⟩) (((ts.take j).filter (starAt sts)).length + 1) cap5), by simp only; omega, ha.sub ⟨rfl, rfl, rfl, by rw [e1]; rfl, rfl, rfl, rfl, trivial⟩, by simp only; omega, hp5, hcul, by simp only; rw [e1]; exact hcut, fun q hq => hcuq q (by simp only at hq; omega), .inr ⟨g, rfl, by simp only; rw [hup_ne (by simp)]; exact hgb⟩, ?_, fun n h1 h2 => by simp only; rw [hup_ne (fun e => by subst e; simp at h2)]; exact hf1 n h1 h2⟩
        simp only
        rw [e2]
        have e3 : i32s (nI ((ts.take j).filter (starAt sts) ++ [t])) = i32s (nI ((ts.take j).filter (starAt sts))) ++ [.int .i32 (t : Int)] := by simp
        rw [e3, List.length_append, List.length_singleton]
        exact hs5
      | false =>
        rw [hstar] at hsa
        refine JL.val ((Run.gtr rfl rfl).to (v' := .bool false) (by simp)) ?_
        refine JL.to (fun _ _ h => h) ?_
        refine J.condF rfl rfl ?_
        have hgb2 : Blk (w2.alloc (.cells [.int .i32 (t : Int)].toArray 21)) g 21 cu := hlit.blk hgb
        have hrun := append_fits (P := Yba.prog) (T := 22) (len := ((ts.take j).filter (fun t => !starAt sts t)).length) (m := 1) (c := 1) (ad := ⟨w2.heap.size, 0, none⟩) (news := [.int .i32 (t : Int)]) el22 hgb2 hcul (by omega) rfl
          (fun q u hq => by rw [addr_add, Nat.zero_add]; exact hnew.cell hq) (by simp [Value.oneCell'])
        refine J.region ?_    -- region 10
        refine JL.val (Run.move rfl) ?_
        refine JL.val (Run.move rfl) ?_
        refine JL.val (Run.buildSlice rfl (buildSlice1 el22 rfl)) ?_
        refine JL.val (Run.append rfl rfl hrun) ?_
        refine JL.val (Run.assign rfl) ?_
        refine JL.to (fun _ _ h => h) ?_
        refine J.region ?_    -- region 11
        refine JL.val (Run.add (c := ((j + 1 : Nat) : Int)) rfl rfl (by omega) (by omega) (by omega)) ?_
        refine JL.val (Run.move rfl) ?_
        have e1 : (ts.take (j + 1)).filter (fun t => !starAt sts t) = (ts.take j).filter (fun t => !starAt sts t) ++ [t] := by rw [filter_snoc _ ht]; simp [hsa]
        have e2 : (ts.take (j + 1)).filter (starAt sts) = (ts.take j).filter (starAt sts) := by rw [filter_snoc _ ht]; simp [hsa]
        generalize hpl' : ((ts.take j).filter (fun t => !starAt sts t)) = pl at *
        have e4 : (cu.take pl.length ++ [(.int .i32 (t : Int) : Value)] ++ cu.drop (pl.length + 1)).length = ec := by simp; omega
        refine JL.nil fun a ha => ⟨(j + 1, hup h1 (20, 0) (some (g, cellsO (cu.take pl.length ++ [.int .i32 (t : Int)] ++ cu.drop (pl.length + 1)) 21)), cu.take pl.length ++ [.int .i32 (t : Int)] ++ cu.drop (pl.length + 1), sv1), by simp only; omega, ha.sub ⟨rfl, rfl, rfl, by rw [e1, List.length_append, List.length_singleton]; rfl, rfl, rfl, rfl, trivial⟩, by simp only; omega, hlit.stl hgb _, e4, ?_, ?_, .inr ⟨g, rfl, by simp only; exact hup_same⟩, ?_, fun n h1 h2 => by simp only; rw [hup_ne (fun e => by subst e; simp at h1)]; exact hf1 n h1 h2⟩
        · simp only
          rw [e1, List.length_append, List.length_singleton, hcut, List.take_append_of_le_length (by simp), List.take_of_length_le (by simp)]
          simp
        · intro q hq
          simp only at hq ⊢
          rw [List.getElem?_append_right (by simp; omega), List.getElem?_drop]
          rw [← hcuq q (by omega)]
          congr 1
          simp
          omega
        · simp only
          rw [e2]
          exact hsl.hup (by simp)
    · have hjl : j = ts.length := by have := of_decide_eq_false hc; omega
      subst hjl
      clear hc
      rw [List.take_length] at hcut hsl ⊢
      refine J.exitTo (fun _ _ h => h) ?_    -- exit 0
      have hsum : (ts.filter (fun t => !starAt sts t)).length + (ts.filter (starAt sts)).length = ts.length := by
        exact filter_sum (starAt sts) ts
      -- append(plain, stars...), in place
      have happ : ∃ w2 h2, (∀ ty, (Builtin.append_ #[22, 22] ty #[.slice ea (ts.filter (fun t => !starAt sts t)).length ec, sv1]).run Yba.prog w1 = .ok (.slice ea ts.length ec) w2) ∧ Hp w0 w2 h2 ∧
          Sl h2 (20, 0) 21 1 (.slice ea ts.length ec) ts.length (i32s (nI (ts.filter (fun t => !starAt sts t) ++ ts.filter (starAt sts)))) ∧ ∀ n : Nat × Nat, n.1 ≠ 20 → n.1 ≠ 97 → h2 n = h n := by
        obtain ⟨sa, sc, hsv⟩ := hsl.slice
        rcases hwh1 with ⟨he1, he2, he3⟩ | ⟨g, hg, hgb⟩
        · subst he1
          subst he2
          subst he3
          simp only [List.filter_nil, List.length_nil] at hsl hsv ⊢
          subst hsv
          exact ⟨w1, h1, append0 el22 (by omega), hp1, Sl.nil _ _ _ _, hf1⟩
        · subst hg
          generalize hpl : ts.filter (fun t => !starAt sts t) = pl at *
          generalize hsl' : ts.filter (starAt sts) = ss at *
          have hcomp : ∀ (l : List Value), l.length = ec → l.take ts.length = i32s (nI (pl ++ ss)) → ∀ (hh : Hn), hh (20, 0) = some (g, cellsO l 21) → Sl hh (20, 0) 21 1 (.slice (some ⟨g, 0, none⟩) ts.length ec) ts.length (i32s (nI (pl ++ ss))) := fun l hl1 hl2 hh hhh =>
            ⟨by simp; omega, .inr ⟨g, ec, l, rfl, hhh, htc, hmx, by simpa using hl1, by simpa using hl2⟩⟩
          rcases Nat.eq_zero_or_pos ss.length with h0 | h0
          · rw [h0] at hsv
            subst hsv
            have hpe : pl.length = ts.length := by omega
            have hss : ss = [] := List.eq_nil_of_length_eq_zero h0
            subst hss
            rw [hpe]
            refine ⟨w1, h1, append0 el22 htc, hp1, hcomp cu hcul ?_ h1 hgb, hf1⟩
            rw [List.append_nil, ← hcut, hpe]
          · obtain ⟨sg, scap, scur, hv2, k1, k2, k3, k4⟩ := hsl.addr h0
            rw [hsv] at hv2
            cases hv2
            subst hsv
            have hrun := append_fits (P := Yba.prog) (T := 22) (len := pl.length) (m := ss.length) (c := sc) (ad := ⟨sg, 0, none⟩) (news := i32s (nI ss)) el22 (hp1.blk hgb) hcul (by omega) (by simp)
              (fun q u hq => by
                obtain ⟨g2, c2, hv3, hcc⟩ := hsl.cell hp1 hq
                cases hv3
                rw [addr_add, Nat.zero_add]
                exact hcc) (i32s_one _)
            have hlen : (cu.take pl.length ++ i32s (nI ss) ++ cu.drop (pl.length + ss.length)).length = ec := by simp; omega
            rw [hsum] at hrun hlen
            refine ⟨_, _, hrun, hp1.stl hgb _, hcomp _ hlen ?_ _ hup_same, fun n h1 h2 => by rw [hup_ne (fun e => by subst e; simp at h1)]; exact hf1 n h1 h2⟩
            rw [hcut, List.take_append_of_le_length (by simp; omega), List.take_of_length_le (by simp; omega)]
            simp
      obtain ⟨w2, h2, hrun, hp2, hs2, hf2⟩ := happ
      have hle2 : LsE h2 1 va sts := hle.keep fun n hn => hf2 n (by omega) (by omega)
      have hat2 : At h2 1 i s rb cur := hat.keep (hf2 _ (by simp) (by simp))
      obtain ⟨ov, rows, hl2, hrn⟩ := hle2
      obtain ⟨hlt3, hp3, hl3, hat3⟩ := hl2.set (j := 1) (u := .slice ea ts.length ec) (s' := ⟨s.star, s.ed, .slice ea ts.length ec, s.indeg, s.stars⟩) hp2 (by omega) hi hat2 (by omega) rfl (hl2.edg i s hi)
      have hi3 : (sts.set i ⟨s.star, s.ed, .slice ea ts.length ec, s.indeg, s.stars⟩)[i]? = some ⟨s.star, s.ed, .slice ea ts.length ec, s.indeg, s.stars⟩ := List.getElem?_set_self hil
      obtain ⟨hlt4, hp4, hl4, hat4⟩ := hl3.set (j := 4) (u := .int .i32 (((ts.filter (starAt sts)).length + 1 : Nat) : Int)) (s' := ⟨s.star, s.ed, .slice ea ts.length ec, s.indeg, (((ts.filter (starAt sts)).length + 1 : Nat) : Int)⟩) hp3 (by omega) hi3 hat3 (by omega) rfl (by
        have := hl3.edg i _ hi3
        exact this)
      obtain ⟨sa, sc, hsv⟩ := hsl.slice
      have hssl : (ts.filter (starAt sts)).length ≤ ts.length := List.length_filter_le _ _
      refine J.seq ?_
      refine J.region ?_    -- region 12
      refine JL.val (Run.move rfl) ?_
      refine JL.val (Run.move rfl) ?_
      refine JL.val (Run.move rfl) ?_
      refine JL.val (Run.append rfl rfl hrun) ?_
      refine JL.val (Run.nil rfl) ?_
      refine JL.val (Run.field fl48_1 rfl) ?_
      refine JL.eff (Run.store c22 rfl rfl rfl (hp2.blk hat2.blk) hlt3) ?_
      refine JL.to (fun _ _ h => h) ?_
      rw [hsv]
      refine J.region ?_    -- region 13
      refine JL.val (Run.move rfl) ?_
      refine JL.val (Run.move rfl) ?_
      refine JL.val (Run.len Yba.underlying22 rfl) ?_
      refine JL.val ((Run.convW Yba.underlying21 ⟨_, Yba.underlying3⟩ rfl).to (v' := .int .i32 ((ts.filter (starAt sts)).length : Int)) (by rw [wrap_id32 (by omega) (by omega)])) ?_
      refine JL.val ((Run.addW rfl rfl).to (v' := .int .i32 (((ts.filter (starAt sts)).length + 1 : Nat) : Int)) (by rw [wrap_id32 (by omega) (by omega)]; simp)) ?_
      refine JL.val (Run.nil rfl) ?_
      refine JL.val (Run.field fl48_4 rfl) ?_
      refine JL.eff (Run.store c21 rfl rfl rfl (hp3.blk hat3.blk) hlt4) ?_
      rw [List.set_set] at hl4
      have hs4 := (hs2.hup (k := (1 + 1, i / 16384)) (x := some (rb, cellsO (cur.set (i % 16384 * 5 + 1) (.slice ea ts.length ec)) 48)) (by simp)).hup (k := (1 + 1, i / 16384)) (x := some (rb, cellsO ((cur.set (i % 16384 * 5 + 1) (.slice ea ts.length ec)).set (i % 16384 * 5 + 4) (.int .i32 (((ts.filter (starAt sts)).length + 1 : Nat) : Int))) 48)) (by simp)
      have hf4 : FrL h (hup (hup h2 (1 + 1, i / 16384) (some (rb, cellsO (cur.set (i % 16384 * 5 + 1) (.slice ea ts.length ec)) 48))) (1 + 1, i / 16384) (some (rb, cellsO ((cur.set (i % 16384 * 5 + 1) (.slice ea ts.length ec)).set (i % 16384 * 5 + 4) (.int .i32 (((ts.filter (starAt sts)).length + 1 : Nat) : Int))) 48))) := fun n h1 h2 h3 => by
        rw [hup_ne (fun e => by subst e; simp at h1), hup_ne (fun e => by subst e; simp at h1)]
        exact hf2 n h2 h3
      refine JL.nil fun a ha => ⟨(_, .slice ea ts.length ec, _), ha.sub ⟨rfl, trivial⟩, hp4, ⟨ov, rows, hl4, by rw [List.length_set]; exact hrn⟩, hat4, hs4, hf4⟩
  · rintro ⟨h2, ev', cur2⟩ w2 ⟨hp2, hle2, hat2, hs2, hf2⟩
    simp only at hp2 hle2 hat2 hs2 hf2 ⊢
    have hssl : (ts.filter (starAt sts)).length ≤ ts.length := List.length_filter_le _ _
    have hc4' : w2.cell? ⟨rb, i % 16384 * 5 + 4, none⟩ = some (.int .i32 (((ts.filter (starAt sts)).length + 1 : Nat) : Int)) := hp2.cell hat2.blk (hat2.get 4 _ rfl)
    refine J.seq ?_
    refine J.region ?_    -- region 14
    refine JL.val (Run.move rfl) ?_
    refine JL.val (Run.nil rfl) ?_
    refine JL.val (Run.field fl48_4 rfl) ?_
    refine JL.val (Run.load t21 rfl hc4') ?_
    refine JL.val (Run.conv64 Yba.underlying3 ⟨_, Yba.underlying21⟩ rfl (by omega) (by omega)) ?_
    refine JL.val (Run.sub (c := ((ts.filter (starAt sts)).length : Int)) rfl rfl (by omega) (by omega) (by omega)) ?_
    refine JL.val (Run.assign rfl) ?_
    refine JL.to (fun _ _ h => h) ?_
    refine J.ret1 Yba.f28 R (fun _ _ h => h) rfl rfl ?_
    exact hR w2 h2 ev' hp2 hle2 hs2 hf2
end Go.Proofs.Ybulkpgu
