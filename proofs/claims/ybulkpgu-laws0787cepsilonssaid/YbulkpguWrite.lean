/-
  (*merge).writeEpsilons.
-/
import Derived.Test.YbulkpguRepl
namespace Go.Proofs.Ybulkpgu
open Go.Fw Go.RowKit
attribute [local simp] Go.Fw.stl_size Go.Fw.sto_size

abbrev nil0 : Value := .slice none 0 0

theorem Mg.set {w0 w : World} {h : Hn} {mb va vb : Nat} {l : List ((Int × Int) × Int)} {rv av ev sv : Value} (hm : Mg h mb va vb l rv av ev sv) (hp : Hp w0 w h) :
    ∃ cs, h (10, 0) = some (mb, cellsO cs 60) ∧ cs.length = 9 ∧
      (∀ v, Hp w0 (Fw.stl w mb (cs.set 4 v)) (hup h (10, 0) (some (mb, cellsO (cs.set 4 v) 60))) ∧ Mg (hup h (10, 0) (some (mb, cellsO (cs.set 4 v) 60))) mb va vb l v av ev sv) ∧
      (∀ v, Hp w0 (Fw.stl w mb (cs.set 5 v)) (hup h (10, 0) (some (mb, cellsO (cs.set 5 v) 60))) ∧ Mg (hup h (10, 0) (some (mb, cellsO (cs.set 5 v) 60))) mb va vb l rv v ev sv) ∧
      (∀ v, Hp w0 (Fw.stl w mb (cs.set 7 v)) (hup h (10, 0) (some (mb, cellsO (cs.set 7 v) 60))) ∧ Mg (hup h (10, 0) (some (mb, cellsO (cs.set 7 v) 60))) mb va vb l rv av v sv) := by
  obtain ⟨pm, qv, h1, h2, h3⟩ := hm.ex
  exact ⟨_, h1, rfl, fun v => ⟨hp.stl h1 _, ⟨pm, qv, hup_same, by rw [hup_ne (by simp)]; exact h2, h3.hup (by simp)⟩⟩, fun v => ⟨hp.stl h1 _, ⟨pm, qv, hup_same, by rw [hup_ne (by simp)]; exact h2, h3.hup (by simp)⟩⟩,
    fun v => ⟨hp.stl h1 _, ⟨pm, qv, hup_same, by rw [hup_ne (by simp)]; exact h2, h3.hup (by simp)⟩⟩⟩

/-- What writeEpsilons leaves alone. -/
def FrW (h h' : Hn) : Prop := ∀ n : Nat × Nat, (3 ≤ n.1 ∧ n.1 ≤ 6) ∨ (22 ≤ n.1 ∧ n.1 ≤ 95) → h' n = h n

theorem pfin_ge (n : Nat) (yp ys xs : List Nat) (take : Bool) : xs.length ≤ (pfin n yp ys xs take).exp.length := by
  unfold pfin
  split
  · simp
  · rename_i hy
    split
    · rename_i hx; simp [hx]
    · rw [prun_exp, each_len]
      have : 0 < ys.length := List.length_pos_iff.2 hy
      have := Nat.mul_le_mul_left xs.length this
      omega

theorem pfin_exp_le (n : Nat) (yp ys xs : List Nat) (take : Bool) (h1 : yp.length ≤ 300) (h2 : ys.length ≤ 300) (h3 : xs.length ≤ 300) : (pfin n yp ys xs take).exp.length ≤ 100000 := by
  have hel := prun_exp false (alone yp) ⟨n, [], []⟩
  rw [alone_len] at hel
  simp only [List.length_nil, Nat.zero_add] at hel
  have hmul : xs.length * ys.length ≤ 300 * 300 := Nat.mul_le_mul h3 h2
  unfold pfin
  split
  · simp; omega
  · split
    · rw [prun_exp, alone_len]; omega
    · rw [prun_exp, each_len]; omega

theorem pfin_next (n : Nat) (yp ys xs : List Nat) (take : Bool) : n ≤ (pfin n yp ys xs take).next := by
  have h0 := (prun_next false (alone yp) ⟨n, [], []⟩).1
  simp only at h0
  unfold pfin
  split
  · exact h0
  · split
    · have := (prun_next false (alone ys) (prun false ⟨n, [], []⟩ (alone yp))).1; omega
    · have := (prun_next take (each xs ys) (prun false ⟨n, [], []⟩ (alone yp))).1; omega

/-- What writeEpsilons leaves: the states, the merge, the slices. -/
structure WE (w0 w : World) (h0 h : Hn) (mb va vb : Nat) (px s : Int) (sI : Nat) (pl xs : List Nat) (yl : Nat) (F : Ps) (stsF : List Sv) (rv av ev sv : Value) : Prop where
  hp : Hp w0 w h
  le : LsE h 1 va stsF
  len : stsF.length = F.next
  st : ∃ ss, stsF[sI]? = some ss ∧ ss.stars = ((F.exp.length : Int) - (yl : Int)) + 1 ∧ Sl h (if px = s then 20 else 21, 0) 21 1 ss.ep (pl.length + F.exp.length) (i32s (nI pl ++ F.exp))
  mg : Mg h mb va vb F.l rv av ev sv
  rm : Sl h (13, 0) 21 1 rv (if px = s then xs.length else 0) (i32s (if px = s then nI xs else []))
  ad : Sl h (14, 0) 21 1 av (if px = s then F.exp.length else pl.length + F.exp.length) (i32s (if px = s then F.exp else nI pl ++ F.exp))
  ep : Sl h (15, 0) 21 1 ev F.exp.length (i32s F.exp)
  x0 : px = 0 → px ≠ s → ∃ sx, stsF[0]? = some sx ∧ sx.stars = (xs.length : Int) + 1 ∧ Sl h (20, 0) 21 1 sx.ep (pl.length + xs.length) (i32s (nI (pl ++ xs)))
  fr : FrW h0 h

set_option maxRecDepth 100000
theorem write_calls {w0 w : World} {h : Hn} {mb va vb : Nat} {stsA stsB : List Sv} (px : Int) (sI : Nat) (yv : Value) (ts ys : List Nat) (ind : Int) (sx : Sv)
    (hp : Hp w0 w h) (hA : LsE h 1 va stsA) (hBl : LsE h 4 vb stsB) (hm : Mg h mb va vb [] nil0 nil0 nil0 nil0) (hy : Sl h (23, 0) 21 1 yv ys.length (i32s (nI ys)))
    (hnA : stsA.length ≤ 1000) (hyl : ys.length ≤ 300) (htl : ts.length ≤ 300) (hyn : ys.Nodup) (htn : ts.Nodup) (hyb : ∀ u ∈ ys, u < stsB.length)
    (hpx : px = -1 ∨ px = 0) (hsI : sI < stsA.length) (hs0 : sI ≠ 0 → stsA[sI]? = some sv0) (hx0 : stsA[0]? = some sx) (hxs : sx.stars = 0) (hep : Sl h (20, 0) 21 1 sx.ep ts.length (i32s (nI ts)))
    (hts : ∀ t ∈ ts, t < stsA.length ∧ t ≠ 0) (htI : ∀ t ∈ ts, ∀ st, stsA[t]? = some st → st.star = true → st.indeg = ind) (hind : 0 ≤ ind ∧ ind ≤ 2) (hmode : px = -1 → sI ≠ 0)
    (R : Ending → World → Prop)
    (hR : ∀ w' h' stsF rv av ev sv, WE w0 w' h h' mb va vb px (sI : Int) sI (if px = -1 then [] else ts.filter fun t => !starAt stsA t) (if px = -1 then [] else ts.filter (starAt stsA)) (ys.filter fun u => !starAt stsB u).length
      (pfin stsA.length (ys.filter fun u => !starAt stsB u) (ys.filter (starAt stsB)) (if px = -1 then [] else ts.filter (starAt stsA)) (decide (px = (sI : Int)) && decide ((ys.filter (starAt stsB)).length = 1) && decide (ind = 2))) stsF rv av ev sv → R (.returned (.tuple #[])) w') :
    Calls Yba.prog 19 #[ptr mb, pv px 0, .int .i32 (sI : Int), yv] w R := by
  obtain ⟨ya, yc, hyv⟩ := hy.slice
  subst hyv
  generalize hpl : (if px = -1 then [] else ts.filter fun t => !starAt stsA t) = pl at *
  generalize hxsd : (if px = -1 then [] else ts.filter (starAt stsA)) = xs at *
  have hplx : pl.length + xs.length ≤ 300 := by
    rw [← hpl, ← hxsd]
    split
    · simp
    · have := filter_sum (starAt stsA) ts; omega
  refine calls (args := [_, _, _, _]) (m := 4) Yba.func19 rfl rfl rfl (by decide) ?_
  refine J.seq ?_
  refine J.region ?_    -- region 0
  refine JL.val (Run.box (l := [.int .i32 px, .int .i32 0]) rfl rfl) ?_
  refine JL.to (fun _ _ h => h) ?_
  have hp1 := hp.new (96, 0) (cellsO [.int .i32 px, .int .i32 0] 54)
  have hk1 : ∀ n : Nat × Nat, n ≠ (96, 0) → hup h (96, 0) (some (w.heap.size, cellsO [.int .i32 px, .int .i32 0] 54)) n = h n := fun n hn => hup_ne hn
  have hbx : hup h (96, 0) (some (w.heap.size, cellsO [.int .i32 px, .int .i32 0] 54)) (96, 0) = some (w.heap.size, cellsO [.int .i32 px, .int .i32 0] 54) := hup_same
  generalize hup h (96, 0) (some (w.heap.size, cellsO [.int .i32 px, .int .i32 0] 54)) = h1 at *
  generalize w.alloc (cellsO [.int .i32 px, .int .i32 0] 54) = w1 at *
  generalize w.heap.size = bx at *
  have hA1 : LsE h1 1 va stsA := hA.keep fun n hn => hk1 n (fun e => by subst e; simp at hn)
  have hB1 : LsE h1 4 vb stsB := hBl.keep fun n hn => hk1 n (fun e => by subst e; simp at hn)
  have hm1 : Mg h1 mb va vb [] nil0 nil0 nil0 nil0 := hm.keep fun n hn => hk1 n (fun e => by subst e; simp at hn)
  have hy1 : Sl h1 (23, 0) 21 1 (.slice ya ys.length yc) ys.length (i32s (nI ys)) := hy.keep (hk1 _ (by simp))
  have hep1 : Sl h1 (20, 0) 21 1 sx.ep ts.length (i32s (nI ts)) := hep.keep (hk1 _ (by simp))
  refine J.seq ?_
  refine J.region ?_    -- region 1
  refine JL.val (Run.assign rfl) ?_
  refine JL.to (fun _ _ h => h) ?_
  refine J.seq ?_
  refine J.region ?_    -- region 2
  refine JL.val (Run.assign rfl) ?_
  refine JL.to (fun _ _ h => h) ?_
  refine J.mid (ι := Hn × Option Addr × Nat × List Sv) (fun i => [(0, ptr mb), (2, .int .i32 (sI : Int)), (3, .slice ya ys.length yc), (5, ptr bx), (8, .slice i.2.1 (pl.length + xs.length) i.2.2.1), (9, .int .i64 (pl.length : Int))])
    (fun i w' => Hp w0 w' i.1 ∧ LsE i.1 1 va i.2.2.2 ∧ (∀ n : Nat × Nat, n.1 ≠ 2 → n.1 ≠ 20 → n.1 ≠ 97 → i.1 n = h1 n) ∧ pl.length + xs.length ≤ i.2.2.1 ∧
      ((px = -1 ∧ i.2.1 = none ∧ i.2.2.1 = 0 ∧ i.2.2.2 = stsA) ∨ (px = 0 ∧ Sl i.1 (20, 0) 21 1 (.slice i.2.1 (pl.length + xs.length) i.2.2.1) (pl.length + xs.length) (i32s (nI (pl ++ xs))) ∧ i.2.2.2 = stsA.set 0 ⟨sx.star, sx.ed, .slice i.2.1 (pl.length + xs.length) i.2.2.1, sx.indeg, ((xs.length + 1 : Nat) : Int)⟩))) ?_ ?_
  · refine J.seq ?_
    refine J.region ?_    -- region 3
    refine JL.val (Run.field fl54_0 rfl) ?_
    refine JL.val (Run.load t21 rfl ((hp1.blk hbx).cell rfl)) ?_
    refine JL.val (Run.neq rfl rfl) ?_
    refine JL.to (fun _ _ h => h) ?_
    rcases hpx with rfl | rfl
    · rw [if_pos rfl] at hpl hxsd
      subst hpl
      subst hxsd
      refine J.condF rfl (by simp) ?_
      refine J.skip fun a ha => ⟨(h1, none, 0, stsA), ha.sub ⟨rfl, rfl, rfl, rfl, rfl, rfl, trivial⟩, hp1, hA1, fun _ _ _ _ => rfl, by simp, .inl ⟨rfl, rfl, rfl, rfl⟩⟩
    · rw [if_neg (by decide)] at hpl hxsd
      have hsum : pl.length + xs.length = ts.length := by rw [← hpl, ← hxsd]; exact filter_sum (starAt stsA) ts
      refine J.condT rfl (by simp) ?_
      refine J.seq ?_
      -- region 4 draws
      have hSof : ∀ x, Hp w0 x h1 → x.cell? ⟨mb, 0, none⟩ = some (ptr va) ∧ Blk x bx 54 [.int .i32 0, .int .i32 0] := fun x hx => ⟨(hm1.cells hx).1, hx.blk hbx⟩
      have hS := hSof _ hp1.drew
      refine J.draw (fun x => x.cell? ⟨mb, 0, none⟩ = some (ptr va) ∧ Blk x bx 54 [.int .i32 0, .int .i32 0]) 8 [(0, true), (1, true), (2, true), (3, true), (4, true), (5, true), (6, false), (7, true)] (by kernel_rfl) (by kernel_rfl) ?_
      refine JS.take (i := 0) rfl hS (fun w' hw' => Run.move rfl) ?_
      refine JS.take (i := 1) rfl hS (fun w' hw' => Run.nil rfl) ?_
      refine JS.take (i := 2) rfl hS (fun w' hw' => Run.field fl60_0 rfl) ?_
      refine JS.take (i := 3) rfl hS (fun w' hw' => Run.load t56 rfl hw'.1) ?_
      refine JS.take (i := 4) rfl hS (fun w' hw' => Run.field fl54_0 rfl) ?_
      refine JS.take (i := 5) rfl hS (fun w' hw' => Run.load t21 rfl (hw'.2.cell rfl)) ?_
      refine JS.call (i := 6) rfl rfl Yba.func28 rfl rfl ?_
      refine last_calls (i := 0) hp1.drew hA1 hx0 hxs hep1 (fun t ht => (hts t ht).1) (by omega) _ ?_
      intro w2 h2 ev2 hp2 hle2 hs2 hf2
      rw [hpl, hxsd] at hs2
      rw [hxsd] at hle2
      have hm2 : Mg h2 mb va vb [] nil0 nil0 nil0 nil0 := hm1.keep fun n hn => hf2 n (by omega) (by omega) (by omega)
      have hbx2 : h2 (96, 0) = some (bx, cellsO [.int .i32 0, .int .i32 0] 54) := (hf2 _ (by simp) (by simp) (by simp)).trans hbx
      have hSof2 : ∀ x, Hp w0 x h2 → x.cell? ⟨mb, 0, none⟩ = some (ptr va) ∧ Blk x bx 54 [.int .i32 0, .int .i32 0] := fun x hx => ⟨(hm2.cells hx).1, hx.blk hbx2⟩
      have hS2 := hSof2 _ hp2
      refine ⟨_, rfl, fun _ => hS2, ?_⟩
      rw [hxsd]
      refine JS.take (i := 7) rfl hS2 (fun w' hw' => Run.assign rfl) ?_
      refine JS.to (fun _ _ h => h) ?_
      obtain ⟨ea, ec, hev, hlc⟩ := hs2.cap
      subst hev
      have hi2 : (stsA.set 0 ⟨sx.star, sx.ed, .slice ea ts.length ec, sx.indeg, ((xs.length + 1 : Nat) : Int)⟩)[0]? = some ⟨sx.star, sx.ed, .slice ea ts.length ec, sx.indeg, ((xs.length + 1 : Nat) : Int)⟩ := List.getElem?_set_self (by omega)
      obtain ⟨ov, rows, hl2, hrn⟩ := id hle2
      obtain ⟨rb, cap, cur, hrow, hat⟩ := hl2.at (i := 0) (by rw [hrn]; simp; omega) hi2
      have hSof3 : ∀ x, Hp w0 x h2 → (x.cell? ⟨mb, 0, none⟩ = some (ptr va) ∧ Blk x bx 54 [.int .i32 0, .int .i32 0]) ∧ x.cell? ⟨rb, 1, none⟩ = some (.slice ea ts.length ec) := fun x hx => ⟨hSof2 x hx, hx.cell hat.blk (by have := hat.get 1 _ rfl; simpa using this)⟩
      have hS3 := hSof3 _ hp2.drew
      refine J.seq ?_
      -- region 5 draws
      refine J.draw (fun x => (x.cell? ⟨mb, 0, none⟩ = some (ptr va) ∧ Blk x bx 54 [.int .i32 0, .int .i32 0]) ∧ x.cell? ⟨rb, 1, none⟩ = some (.slice ea ts.length ec)) 13 [(0, true), (1, true), (2, true), (3, true), (4, true), (5, true), (6, true), (7, true), (8, false), (9, true), (10, true), (11, true), (12, true)] (by kernel_rfl) (by kernel_rfl) ?_
      refine JS.take (i := 0) rfl hS3 (fun w' hw' => Run.move rfl) ?_
      refine JS.take (i := 1) rfl hS3 (fun w' hw' => Run.nil rfl) ?_
      refine JS.take (i := 2) rfl hS3 (fun w' hw' => Run.field fl60_0 rfl) ?_
      refine JS.take (i := 3) rfl hS3 (fun w' hw' => Run.load t56 rfl hw'.1.1) ?_
      refine JS.take (i := 4) rfl hS3 (fun w' hw' => Run.nil rfl) ?_
      refine JS.take (i := 5) rfl hS3 (fun w' hw' => Run.field fl44_0 rfl) ?_
      refine JS.take (i := 6) rfl hS3 (fun w' hw' => Run.field fl54_0 rfl) ?_
      refine JS.take (i := 7) rfl hS3 (fun w' hw' => Run.load t21 rfl (hw'.1.2.cell rfl)) ?_
      refine JS.call (i := 8) rfl rfl Yba.func18 rfl rfl ?_
      refine at_calls (i := 0) hp2.drew hle2 hi2 _ ?_
      intro rb' cur' hat'
      have hrb : rb' = rb := by
        have := hat'.blk.symm.trans hat.blk
        simp only [Option.some.injEq, Prod.mk.injEq] at this
        exact this.1
      subst hrb
      refine ⟨_, rfl, fun _ => hS3, ?_⟩
      refine JS.take (i := 9) rfl hS3 (fun w' hw' => Run.nil rfl) ?_
      refine JS.take (i := 10) rfl hS3 (fun w' hw' => Run.field fl48_1 rfl) ?_
      refine JS.take (i := 11) rfl hS3 (fun w' hw' => Run.load t22 rfl (by simpa using hw'.2)) ?_
      refine JS.take (i := 12) rfl hS3 (fun w' hw' => Run.assign rfl) ?_
      refine JS.to (fun _ _ h => h) ?_
      refine J.region ?_    -- region 6
      refine JL.val (Run.move rfl) ?_
      refine JL.val (Run.len Yba.underlying22 rfl) ?_
      refine JL.val (Run.move rfl) ?_
      refine JL.val (Run.sub (c := (pl.length : Int)) rfl rfl (by omega) (by omega) (by omega)) ?_
      refine JL.val (Run.assign rfl) ?_
      refine JL.nil fun a ha => ⟨(h2, ea, ec, _), ha.sub ⟨rfl, rfl, rfl, rfl, by rw [hsum]; rfl, rfl, trivial⟩, hp2.drew, hle2, hf2, by simp only; omega, .inr ⟨rfl, by simp only; rw [hsum]; exact hs2, by simp only; rw [hsum]⟩⟩
  rintro ⟨h2, ea, ec, stsA1⟩ w2 ⟨hp2, hle2, hf2, hec, hor⟩
  simp only at hp2 hle2 hf2 hec hor ⊢
  have hm2 : Mg h2 mb va vb [] nil0 nil0 nil0 nil0 := hm1.keep fun n hn => hf2 n (by omega) (by omega) (by omega)
  have hB2 : LsE h2 4 vb stsB := hB1.keep fun n hn => hf2 n (by omega) (by omega) (by omega)
  have hy2 : Sl h2 (23, 0) 21 1 (.slice ya ys.length yc) ys.length (i32s (nI ys)) := hy1.keep (hf2 _ (by simp) (by simp) (by simp))
  have hbx2 : h2 (96, 0) = some (bx, cellsO [.int .i32 px, .int .i32 0] 54) := (hf2 _ (by simp) (by simp) (by simp)).trans hbx
  have hlen1 : stsA1.length = stsA.length := by
    rcases hor with ⟨_, _, _, e⟩ | ⟨_, _, e⟩
    · rw [e]
    · rw [e, List.length_set]
  have hne : pl.length + xs.length - pl.length = xs.length := by omega
  have htail : RdH h2 (20, 0) (.slice (if ec = pl.length then ea else ea.map (·.add pl.length)) xs.length (ec - pl.length)) xs.length (i32s (nI xs)) := by
    rcases hor with ⟨e1, e2, e3, _⟩ | ⟨_, hs, _⟩
    · have hx0' : xs = [] := by rw [← hxsd, if_pos e1]
      exact ⟨_, _, rfl, fun hmm => by rw [hx0'] at hmm; simp at hmm⟩
    · have := RdH.tail hs (lo := pl.length) (by omega)
      rw [hne] at this
      have e : (i32s (nI (pl ++ xs))).drop pl.length = i32s (nI xs) := by simp [nI, i32s]
      rw [e] at this
      exact this
  have hhead : ∀ (x : World) (hh : Hn), Hp w0 x hh → hh (20, 0) = h2 (20, 0) → Rd x (.slice ea pl.length ec) pl.length (i32s (nI pl)) := fun x hh hx hk => by
    rcases hor with ⟨e1, e2, e3, _⟩ | ⟨_, hs, _⟩
    · have hp0 : pl = [] := by rw [← hpl, if_pos e1]
      exact ⟨_, _, rfl, fun hmm => by rw [hp0] at hmm; simp at hmm⟩
    · have hc := hs.cut (k := pl.length) (by omega)
      have e : (i32s (nI (pl ++ xs))).take pl.length = i32s (nI pl) := by simp [nI, i32s]
      rw [e] at hc
      exact (hc.keep hk).rd hx
  have hxa : ∀ t ∈ xs, ∃ st, stsA1[t]? = some st ∧ st.star = true ∧ st.indeg = ind := fun t ht => by
    rcases hor with ⟨e1, _⟩ | ⟨e1, _, e2⟩
    · rw [← hxsd, if_pos e1] at ht; simp at ht
    · rw [← hxsd, if_neg (by rw [e1]; decide)] at ht
      obtain ⟨h1', h2'⟩ := List.mem_filter.1 ht
      obtain ⟨st, hst⟩ : ∃ st, stsA[t]? = some st := ⟨stsA[t]'(hts t h1').1, List.getElem?_eq_getElem (hts t h1').1⟩
      rw [starAt_of hst] at h2'
      refine ⟨st, ?_, h2', htI t h1' st hst h2'⟩
      rw [e2, List.getElem?_set_ne (Ne.symm (hts t h1').2)]
      exact hst
  have hxn : xs.Nodup := by
    rw [← hxsd]
    split
    · simp
    · exact List.Pairwise.filter _ htn
  have hypl : (ys.filter fun u => !starAt stsB u).length ≤ 300 := by have := List.length_filter_le (fun u => !starAt stsB u) ys; omega
  have hystl : (ys.filter (starAt stsB)).length ≤ 300 := by have := List.length_filter_le (starAt stsB) ys; omega
  have hSof : ∀ x hh, Hp w0 x hh → (∃ l sv, Mg hh mb va vb l nil0 nil0 nil0 sv) → hh (96, 0) = some (bx, cellsO [.int .i32 px, .int .i32 0] 54) → x.cell? ⟨mb, 7, none⟩ = some nil0 ∧ Blk x bx 54 [.int .i32 px, .int .i32 0] := fun x hh hx hmx hb =>
    let ⟨_, _, hmm⟩ := hmx
    ⟨(hmm.cells hx).2.2.2.2.1, hx.blk hb⟩
  have hS := hSof _ _ hp2.drew ⟨_, _, hm2⟩ hbx2
  refine J.seq ?_
  -- region 7 draws
  refine J.draw (fun x => x.cell? ⟨mb, 7, none⟩ = some nil0 ∧ Blk x bx 54 [.int .i32 px, .int .i32 0]) 18 [(0, true), (1, true), (2, true), (3, true), (4, true), (5, true), (6, true), (7, true), (8, true), (9, true), (10, true), (11, true), (12, false), (13, true), (14, true), (15, true), (16, true), (17, true)] (by kernel_rfl) (by kernel_rfl) ?_
  refine JS.take (i := 0) rfl hS (fun w' hw' => Run.move rfl) ?_
  refine JS.take (i := 1) rfl hS (fun w' hw' => Run.move rfl) ?_
  refine JS.take (i := 2) rfl hS (fun w' hw' => Run.nil rfl) ?_
  refine JS.take (i := 3) rfl hS (fun w' hw' => Run.field fl60_7 rfl) ?_
  refine JS.take (i := 4) rfl hS (fun w' hw' => Run.load t22 rfl hw'.1) ?_
  refine JS.take (i := 5) rfl hS (fun w' hw' => Run.sliceHi (h := 0) Yba.underlying22 c21 (by decide) rfl rfl (by omega)) ?_
  refine JS.take (i := 6) rfl hS (fun w' hw' => Run.loadA (cs := [.int .i32 px, .int .i32 0]) ta54 rfl (fun j u hj => by rw [Nat.zero_add]; exact hw'.2.cell hj)) ?_
  refine JS.take (i := 7) rfl hS (fun w' hw' => Run.move rfl) ?_
  refine JS.take (i := 8) rfl hS (fun w' hw' => Run.move rfl) ?_
  refine JS.take (i := 9) rfl hS (fun w' hw' => Run.move rfl) ?_
  refine JS.take (i := 10) rfl hS (fun w' hw' => Run.sliceLo Yba.underlying22 c21 rfl rfl (by omega)) ?_
  refine JS.take (i := 11) rfl hS (fun w' hw' => Run.move rfl) ?_
  rw [hne]
  refine JS.call (i := 12) rfl rfl Yba.func29 rfl rfl ?_
  refine pair_calls px (sI : Int) _ _ xs ys ind hp2.drew hle2 hB2 hm2 hy2 htail (by omega) hyl (by omega) hyn hxn hyb hxa hind _ ?_
  intro w3 h3 epsv sv3 hpe3 hf3
  rw [hlen1] at hpe3 ⊢
  have hge := pfin_ge stsA.length (ys.filter fun u => !starAt stsB u) (ys.filter (starAt stsB)) xs (decide (px = (sI : Int)) && decide ((ys.filter (starAt stsB)).length = 1) && decide (ind = 2))
  have hle := pfin_exp_le stsA.length (ys.filter fun u => !starAt stsB u) (ys.filter (starAt stsB)) xs (decide (px = (sI : Int)) && decide ((ys.filter (starAt stsB)).length = 1) && decide (ind = 2)) hypl hystl (by omega)
  have hnxt := pfin_next stsA.length (ys.filter fun u => !starAt stsB u) (ys.filter (starAt stsB)) xs (decide (px = (sI : Int)) && decide ((ys.filter (starAt stsB)).length = 1) && decide (ind = 2))
  generalize pfin stsA.length (ys.filter fun u => !starAt stsB u) (ys.filter (starAt stsB)) xs (decide (px = (sI : Int)) && decide ((ys.filter (starAt stsB)).length = 1) && decide (ind = 2)) = F at *
  generalize (ys.filter fun u => !starAt stsB u).length = yl at *
  have hbx3 : h3 (96, 0) = some (bx, cellsO [.int .i32 px, .int .i32 0] 54) := (hf3 _ (by simp)).trans hbx2
  have hS3 := hSof _ _ hpe3.hp ⟨_, _, hpe3.mg⟩ hbx3
  obtain ⟨epa, epc, hepv⟩ := hpe3.sl.slice
  subst hepv
  refine ⟨_, rfl, fun _ => hS3, ?_⟩
  refine JS.take (i := 13) rfl hS3 (fun w' hw' => Run.move rfl) ?_
  refine JS.take (i := 14) rfl hS3 (fun w' hw' => Run.extract (v := .slice epa F.exp.length epc) rfl rfl) ?_
  refine JS.take (i := 15) rfl hS3 (fun w' hw' => Run.extract (v := .int .i64 ((F.exp.length : Int) - (yl : Int))) rfl rfl) ?_
  refine JS.take (i := 16) rfl hS3 (fun w' hw' => Run.assign rfl) ?_
  refine JS.take (i := 17) rfl hS3 (fun w' hw' => Run.assign rfl) ?_
  refine JS.to (fun _ _ h => h) ?_
  -- the new targets are stored in the merge
  obtain ⟨cs, hcs, hcl, _, _, hset7⟩ := hpe3.mg.set hpe3.hp
  obtain ⟨hp4, hm4⟩ := hset7 (.slice epa F.exp.length epc)
  have hk4 : ∀ n : Nat × Nat, n.1 ≠ 10 → hup h3 (10, 0) (some (mb, cellsO (cs.set 7 (.slice epa F.exp.length epc)) 60)) n = h3 n := fun n hn => hup_ne (fun e => by subst e; simp at hn)
  refine J.seq ?_
  refine J.region ?_    -- region 8
  refine JL.val (Run.move rfl) ?_
  refine JL.val (Run.move rfl) ?_
  refine JL.val (Run.nil rfl) ?_
  refine JL.val (Run.field fl60_7 rfl) ?_
  refine JL.eff (Run.store c22 rfl rfl rfl (hpe3.hp.blk hcs) (by omega)) ?_
  refine JL.to (fun _ _ h => h) ?_
  rw [show 0 + 7 = 7 from rfl]
  generalize hup h3 (10, 0) (some (mb, cellsO (cs.set 7 (.slice epa F.exp.length epc)) 60)) = h4 at *
  generalize Fw.stl w3 mb (cs.set 7 (.slice epa F.exp.length epc)) = w4 at *
  have hle4 : LsE h4 1 va (stsA1 ++ List.replicate (F.next - stsA1.length) sv0) := hpe3.le.keep fun n hn => hk4 n (by omega)
  have hsl4 : Sl h4 (15, 0) 21 1 (.slice epa F.exp.length epc) F.exp.length (i32s F.exp) := hpe3.sl.keep (hk4 _ (by simp))
  have hbx4 : h4 (96, 0) = some (bx, cellsO [.int .i32 px, .int .i32 0] 54) := (hk4 _ (by simp)).trans hbx3
  have hf4 : ∀ n : Nat × Nat, (3 ≤ n.1 ∧ n.1 ≤ 6) ∨ n.1 = 13 ∨ n.1 = 14 ∨ (17 ≤ n.1 ∧ n.1 ≤ 96) → h4 n = h2 n := fun n hn => (hk4 n (by omega)).trans (hf3 n hn)
  have hSL : (stsA1 ++ List.replicate (F.next - stsA1.length) sv0).length = F.next := by rw [List.length_append, List.length_replicate]; omega
  obtain ⟨ss, hss⟩ : ∃ ss, stsA1[sI]? = some ss := ⟨stsA1[sI]'(by omega), List.getElem?_eq_getElem (by omega)⟩
  have hss4 : (stsA1 ++ List.replicate (F.next - stsA1.length) sv0)[sI]? = some ss := app_get hss
  have hx04 : px = 0 → px ≠ (sI : Int) → (stsA1 ++ List.replicate (F.next - stsA1.length) sv0)[0]? = some ⟨sx.star, sx.ed, .slice ea (pl.length + xs.length) ec, sx.indeg, ((xs.length + 1 : Nat) : Int)⟩ ∧ Sl h4 (20, 0) 21 1 (.slice ea (pl.length + xs.length) ec) (pl.length + xs.length) (i32s (nI (pl ++ xs))) := fun e1 _ => by
    rcases hor with ⟨e, _⟩ | ⟨_, hs, e2⟩
    · omega
    · refine ⟨app_get ?_, hs.keep (hf4 _ (by simp))⟩
      rw [e2]
      exact List.getElem?_set_self (by omega)
  clear hpe3 hcs hset7 hf3 hS3 hS hk4
  refine J.seq ?_
  refine J.region ?_    -- region 9
  refine JL.val (Run.move rfl) ?_
  refine JL.val (Run.nil rfl) ?_
  refine JL.val (Run.field fl60_0 rfl) ?_
  refine JL.val (Run.load t56 rfl (hm4.cells hp4).1) ?_
  refine JL.val (Run.nil rfl) ?_
  refine JL.val (Run.field fl44_0 rfl) ?_
  refine JL.val (Run.move rfl) ?_
  refine JL.call rfl Yba.func18 rfl rfl ?_
  refine at_calls hp4 hle4 hss4 _ ?_
  intro rb cur hat
  refine ⟨_, rfl, ?_⟩
  refine JL.val (Run.assign rfl) ?_
  refine JL.to (fun _ _ h => h) ?_
  generalize hST : stsA1 ++ List.replicate (F.next - stsA1.length) sv0 = ST at *
  have hsIl : sI < ST.length := by omega
  have hrow : sI / 16384 < (ST.length + 16383) / 16384 := by omega
  refine J.mid (ι := Hn × Sv × List Value × Value × Value) (fun _ => [(12, .int .i64 ((F.exp.length : Int) - (yl : Int))), (13, .pointer (some ⟨rb, sI % 16384 * 5, none⟩))])
    (fun i w' => (Hp w0 w' i.1 ∧ LsE i.1 1 va (ST.set sI i.2.1) ∧ At i.1 1 sI i.2.1 rb i.2.2.1) ∧ Sl i.1 (if px = (sI : Int) then 20 else 21, 0) 21 1 i.2.1.ep (pl.length + F.exp.length) (i32s (nI pl ++ F.exp)) ∧ Mg i.1 mb va vb F.l i.2.2.2.1 i.2.2.2.2 (.slice epa F.exp.length epc) sv3 ∧
      Sl i.1 (13, 0) 21 1 i.2.2.2.1 (if px = (sI : Int) then xs.length else 0) (i32s (if px = (sI : Int) then nI xs else [])) ∧ Sl i.1 (14, 0) 21 1 i.2.2.2.2 (if px = (sI : Int) then F.exp.length else pl.length + F.exp.length) (i32s (if px = (sI : Int) then F.exp else nI pl ++ F.exp)) ∧
      Sl i.1 (15, 0) 21 1 (.slice epa F.exp.length epc) F.exp.length (i32s F.exp) ∧ (px ≠ (sI : Int) → i.1 (20, 0) = h4 (20, 0)) ∧ ∀ n : Nat × Nat, (3 ≤ n.1 ∧ n.1 ≤ 6) ∨ (22 ≤ n.1 ∧ n.1 ≤ 95) → i.1 n = h4 n) ?_ ?_
  · refine J.seq ?_
    refine J.region ?_    -- region 10
    refine JL.val (Run.field fl54_0 rfl) ?_
    refine JL.val (Run.load t21 rfl ((hp4.blk hbx4).cell rfl)) ?_
    refine JL.val (Run.move rfl) ?_
    refine JL.val (Run.eql rfl rfl) ?_
    refine JL.to (fun _ _ h => h) ?_
    refine J.cond rfl (fun hc => ?_) (fun hc => ?_)
    · have hps : px = (sI : Int) := of_decide_eq_true hc
      have hpx0 : px = 0 := by rcases hpx with e | e <;> omega
      have hsI0 : sI = 0 := by omega
      have hs20 : Sl h4 (20, 0) 21 1 (.slice ea (pl.length + xs.length) ec) (pl.length + xs.length) (i32s (nI (pl ++ xs))) ∧ ss.ep = .slice ea (pl.length + xs.length) ec := by
        rcases hor with ⟨e, _⟩ | ⟨_, hs, e2⟩
        · omega
        · refine ⟨hs.keep (hf4 _ (by simp)), ?_⟩
          rw [e2, hsI0, List.getElem?_set_self (by omega)] at hss
          cases hss
          rfl
      obtain ⟨hs20, hsep⟩ := hs20
      -- region 11: removed
      have htl4 : RdH h4 (20, 0) (.slice (if ec = pl.length then ea else ea.map (·.add pl.length)) xs.length (ec - pl.length)) xs.length (i32s (nI xs)) := htail.keep (hf4 _ (by simp))
      obtain ⟨v5, w5, h5, hrun5, hp5, hs5, hf5⟩ := appendR (P := Yba.prog) (T := 22) hp4.drew el22 (Sl.nil h4 (13, 0) 21 1) (htl4.rd hp4.drew) (by simp) (i32s_one _) (by omega) (by omega)
      rw [Nat.zero_add, List.nil_append] at hs5
      have hm5 : Mg h5 mb va vb F.l nil0 nil0 (.slice epa F.exp.length epc) sv3 := hm4.keep fun n hn => hf5 n (fun e => by subst e; simp at hn)
      obtain ⟨cs5, hcs5, hcl5, hset5, _, _⟩ := hm5.set hp5
      obtain ⟨hp6, hm6⟩ := hset5 v5
      have hSa : w4.drew.cell? ⟨mb, 4, none⟩ = some nil0 := (hm4.cells hp4.drew).2.2.1
      have hSb : w5.cell? ⟨mb, 4, none⟩ = some nil0 := (hm5.cells hp5).2.2.1
      refine J.seq ?_
      refine J.draw (fun x => x.cell? ⟨mb, 4, none⟩ = some nil0) 11 [(0, true), (1, true), (2, true), (3, true), (4, true), (5, true), (6, true), (7, true), (8, false), (9, false), (10, true), (11, false)] (by kernel_rfl) (by kernel_rfl) ?_
      refine JS.take (i := 0) rfl hSa (fun w' hw' => Run.move rfl) ?_
      refine JS.take (i := 1) rfl hSa (fun w' hw' => Run.move rfl) ?_
      refine JS.take (i := 2) rfl hSa (fun w' hw' => Run.nil rfl) ?_
      refine JS.take (i := 3) rfl hSa (fun w' hw' => Run.field fl60_4 rfl) ?_
      refine JS.take (i := 4) rfl hSa (fun w' hw' => Run.load t22 rfl hw') ?_
      refine JS.take (i := 5) rfl hSa (fun w' hw' => Run.move rfl) ?_
      refine JS.take (i := 6) rfl hSa (fun w' hw' => Run.move rfl) ?_
      refine JS.take (i := 7) rfl hSa (fun w' hw' => Run.sliceLo Yba.underlying22 c21 rfl rfl (by omega)) ?_
      rw [hne]
      refine JS.loud (i := 8) rfl (Run.append rfl rfl hrun5) (fun _ => hSb) ?_
      refine JS.loud (i := 9) rfl (Run.nil rfl) (fun _ => hSb) ?_
      refine JS.take (i := 10) rfl hSb (fun w' hw' => Run.field fl60_4 rfl) ?_
      refine JS.eff (i := 11) rfl (Run.store c22 rfl rfl hs5.one (hp5.blk hcs5) (by omega)) (fun h => absurd rfl h) ?_
      refine JS.to (fun _ _ h => h) ?_
      rw [show 0 + 4 = 4 from rfl]
      have hk6 : ∀ n : Nat × Nat, n.1 ≠ 10 → n.1 ≠ 13 → hup h5 (10, 0) (some (mb, cellsO (cs5.set 4 v5) 60)) n = h4 n := fun n hn hn2 => by rw [hup_ne (fun e => by subst e; simp at hn)]; exact hf5 n (fun e => by subst e; simp at hn2)
      have hr6 : Sl (hup h5 (10, 0) (some (mb, cellsO (cs5.set 4 v5) 60))) (13, 0) 21 1 v5 xs.length (i32s (nI xs)) := hs5.hup (by simp)
      generalize hup h5 (10, 0) (some (mb, cellsO (cs5.set 4 v5) 60)) = h6 at *
      generalize Fw.stl w5 mb (cs5.set 4 v5) = w6 at *
      -- region 12: added
      have hsl6 : Sl h6 (15, 0) 21 1 (.slice epa F.exp.length epc) F.exp.length (i32s F.exp) := hsl4.keep (hk6 _ (by simp) (by simp))
      obtain ⟨v7, w7, h7, hrun7, hp7, hs7, hf7⟩ := appendR (P := Yba.prog) (T := 22) hp6.drew el22 (Sl.nil h6 (14, 0) 21 1) (hsl6.rd hp6.drew) (by simp) (i32s_one _) (by omega) (by omega)
      rw [Nat.zero_add, List.nil_append] at hs7
      have hm7 : Mg h7 mb va vb F.l v5 nil0 (.slice epa F.exp.length epc) sv3 := hm6.keep fun n hn => hf7 n (fun e => by subst e; simp at hn)
      obtain ⟨cs7, hcs7, hcl7, _, hset7, _⟩ := hm7.set hp7
      obtain ⟨hp8, hm8⟩ := hset7 v7
      have hSa7 : w6.drew.cell? ⟨mb, 5, none⟩ = some nil0 ∧ w6.drew.cell? ⟨mb, 7, none⟩ = some (.slice epa F.exp.length epc) := ⟨(hm6.cells hp6.drew).2.2.2.1, (hm6.cells hp6.drew).2.2.2.2.1⟩
      have hSb7 : w7.cell? ⟨mb, 5, none⟩ = some nil0 ∧ w7.cell? ⟨mb, 7, none⟩ = some (.slice epa F.exp.length epc) := ⟨(hm7.cells hp7).2.2.2.1, (hm7.cells hp7).2.2.2.2.1⟩
      refine J.seq ?_
      refine J.draw (fun x => x.cell? ⟨mb, 5, none⟩ = some nil0 ∧ x.cell? ⟨mb, 7, none⟩ = some (.slice epa F.exp.length epc)) 12 [(0, true), (1, true), (2, true), (3, true), (4, true), (5, true), (6, true), (7, true), (8, true), (9, false), (10, false), (11, true), (12, false)] (by kernel_rfl) (by kernel_rfl) ?_
      refine JS.take (i := 0) rfl hSa7 (fun w' hw' => Run.move rfl) ?_
      refine JS.take (i := 1) rfl hSa7 (fun w' hw' => Run.move rfl) ?_
      refine JS.take (i := 2) rfl hSa7 (fun w' hw' => Run.nil rfl) ?_
      refine JS.take (i := 3) rfl hSa7 (fun w' hw' => Run.field fl60_5 rfl) ?_
      refine JS.take (i := 4) rfl hSa7 (fun w' hw' => Run.load t22 rfl hw'.1) ?_
      refine JS.take (i := 5) rfl hSa7 (fun w' hw' => Run.move rfl) ?_
      refine JS.take (i := 6) rfl hSa7 (fun w' hw' => Run.nil rfl) ?_
      refine JS.take (i := 7) rfl hSa7 (fun w' hw' => Run.field fl60_7 rfl) ?_
      refine JS.take (i := 8) rfl hSa7 (fun w' hw' => Run.load t22 rfl hw'.2) ?_
      refine JS.loud (i := 9) rfl (Run.append rfl rfl hrun7) (fun _ => hSb7) ?_
      refine JS.loud (i := 10) rfl (Run.nil rfl) (fun _ => hSb7) ?_
      refine JS.take (i := 11) rfl hSb7 (fun w' hw' => Run.field fl60_5 rfl) ?_
      refine JS.eff (i := 12) rfl (Run.store c22 rfl rfl hs7.one (hp7.blk hcs7) (by omega)) (fun h => absurd rfl h) ?_
      refine JS.to (fun _ _ h => h) ?_
      rw [show 0 + 5 = 5 from rfl]
      have hk8 : ∀ n : Nat × Nat, n.1 ≠ 10 → n.1 ≠ 13 → n.1 ≠ 14 → hup h7 (10, 0) (some (mb, cellsO (cs7.set 5 v7) 60)) n = h4 n := fun n hn hn2 hn3 => by rw [hup_ne (fun e => by subst e; simp at hn), hf7 n (fun e => by subst e; simp at hn3)]; exact hk6 n hn hn2
      have ha8 : Sl (hup h7 (10, 0) (some (mb, cellsO (cs7.set 5 v7) 60))) (14, 0) 21 1 v7 F.exp.length (i32s F.exp) := hs7.hup (by simp)
      have hr8 : Sl (hup h7 (10, 0) (some (mb, cellsO (cs7.set 5 v7) 60))) (13, 0) 21 1 v5 xs.length (i32s (nI xs)) := (hr6.keep (hf7 _ (by simp))).hup (by simp)
      generalize hup h7 (10, 0) (some (mb, cellsO (cs7.set 5 v7) 60)) = h8 at *
      generalize Fw.stl w7 mb (cs7.set 5 v7) = w8 at *
      clear hp5 hp6 hp7 hm5 hm6 hm7 hset5 hset7 hcs5 hcs7 hrun5 hrun7 hSa hSb hSa7 hSb7
      -- region 13: st.eps
      have hat8 : At h8 1 sI ss rb cur := hat.keep (hk8 _ (by simp) (by simp) (by simp))
      have hle8 : LsE h8 1 va ST := hle4.keep fun n hn => hk8 n (by omega) (by omega) (by omega)
      have hs8 : Sl h8 (20, 0) 21 1 (.slice ea (pl.length + xs.length) ec) (nI (pl ++ xs)).length (i32s (nI (pl ++ xs))) := by
        rw [show (nI (pl ++ xs)).length = pl.length + xs.length by simp]
        exact hs20.keep (hk8 _ (by simp) (by simp) (by simp))
      have hsl8 : Sl h8 (15, 0) 21 1 (.slice epa F.exp.length epc) F.exp.length (i32s F.exp) := hsl4.keep (hk8 _ (by simp) (by simp) (by simp))
      have hcS : ∀ x hh, Hp w0 x hh → At hh 1 sI ss rb cur → Mg hh mb va vb F.l v5 v7 (.slice epa F.exp.length epc) sv3 → x.cell? ⟨rb, sI % 16384 * 5 + 1, none⟩ = some (.slice ea (pl.length + xs.length) ec) ∧ x.cell? ⟨mb, 7, none⟩ = some (.slice epa F.exp.length epc) := fun x hh hx ha hmm =>
        ⟨hx.cell ha.blk (by have := ha.get 1 ss.ep rfl; rwa [hsep] at this), (hmm.cells hx).2.2.2.2.1⟩
      have hS8 := hcS _ _ hp8.drew hat8 hm8
      refine J.draw (fun x => x.cell? ⟨rb, sI % 16384 * 5 + 1, none⟩ = some (.slice ea (pl.length + xs.length) ec) ∧ x.cell? ⟨mb, 7, none⟩ = some (.slice epa F.exp.length epc)) 18 [(0, true), (1, true), (2, true), (3, true), (4, true), (5, true), (6, true), (7, true), (8, true), (9, true), (10, true), (11, true), (12, true), (13, true), (14, true), (15, false), (16, false), (17, true), (18, false)] (by kernel_rfl) (by kernel_rfl) ?_
      refine JS.take (i := 0) rfl hS8 (fun w' hw' => Run.move rfl) ?_
      refine JS.take (i := 1) rfl hS8 (fun w' hw' => Run.move rfl) ?_
      refine JS.take (i := 2) rfl hS8 (fun w' hw' => Run.nil rfl) ?_
      refine JS.take (i := 3) rfl hS8 (fun w' hw' => Run.field fl48_1 rfl) ?_
      refine JS.take (i := 4) rfl hS8 (fun w' hw' => Run.load t22 rfl hw'.1) ?_
      refine JS.take (i := 5) rfl hS8 (fun w' hw' => Run.move rfl) ?_
      refine JS.take (i := 6) rfl hS8 (fun w' hw' => Run.move rfl) ?_
      refine JS.take (i := 7) rfl hS8 (fun w' hw' => Run.nil rfl) ?_
      refine JS.take (i := 8) rfl hS8 (fun w' hw' => Run.field fl48_1 rfl) ?_
      refine JS.take (i := 9) rfl hS8 (fun w' hw' => Run.load t22 rfl hw'.1) ?_
      refine JS.take (i := 10) rfl hS8 (fun w' hw' => (Run.len Yba.underlying22 rfl).to (v' := .int .i64 ((nI (pl ++ xs)).length : Int)) (by simp)) ?_
      refine JS.take (i := 11) rfl hS8 (fun w' hw' => Run.move rfl) ?_
      refine JS.take (i := 12) rfl hS8 (fun w' hw' => Run.nil rfl) ?_
      refine JS.take (i := 13) rfl hS8 (fun w' hw' => Run.field fl60_7 rfl) ?_
      refine JS.take (i := 14) rfl hS8 (fun w' hw' => Run.load t22 rfl hw'.2) ?_
      refine JS.call (i := 15) rfl rfl Yba.func30 rfl rfl ?_
      refine replace_calls (p := pl.length) hp8.drew hs8 (hsl8.rd hp8.drew) (by simp) (by simp; omega) (by simp; omega) _ ?_
      intro w9 h9 v9 hp9 hs9 hf9
      have hat9 : At h9 1 sI ss rb cur := hat8.keep (hf9 _ (by simp))
      have hm9 : Mg h9 mb va vb F.l v5 v7 (.slice epa F.exp.length epc) sv3 := hm8.keep fun n hn => hf9 n (fun e => by subst e; simp at hn)
      have hS9 := hcS _ _ hp9 hat9 hm9
      refine ⟨_, rfl, fun _ => hS9, ?_⟩
      refine JS.loud (i := 16) rfl (Run.nil rfl) (fun _ => hS9) ?_
      refine JS.take (i := 17) rfl hS9 (fun w' hw' => Run.field fl48_1 rfl) ?_
      have hle9 : LsE h9 1 va ST := hle8.keep fun n hn => hf9 n (fun e => by subst e; simp at hn)
      obtain ⟨ov, rows, hl9, hrn⟩ := hle9
      obtain ⟨hlt10, hp10, hl10, hat10⟩ := hl9.set (j := 1) (u := v9) (s' := ⟨ss.star, ss.ed, v9, ss.indeg, ss.stars⟩) hp9 (by omega) hss4 hat9 (by omega) rfl (hl9.edg sI ss hss4)
      refine JS.eff (i := 18) rfl (Run.store c22 rfl rfl hs9.one (hp9.blk hat9.blk) hlt10) (fun h => absurd rfl h) ?_
      have e20 : (nI (pl ++ xs)).take pl.length ++ F.exp = nI pl ++ F.exp := by simp [nI]
      rw [e20] at hs9
      have hk10 : ∀ n : Nat × Nat, n.1 ≠ 2 → hup h9 (1 + 1, sI / 16384) (some (rb, cellsO (cur.set (sI % 16384 * 5 + 1) v9) 48)) n = h9 n := fun n hn => hup_ne (fun e => by subst e; simp at hn)
      generalize hup h9 (1 + 1, sI / 16384) (some (rb, cellsO (cur.set (sI % 16384 * 5 + 1) v9) 48)) = h10 at *
      refine JS.nil fun a ha => ⟨(h10, ⟨ss.star, ss.ed, v9, ss.indeg, ss.stars⟩, cur.set (sI % 16384 * 5 + 1) v9, v5, v7), ha.sub ⟨rfl, rfl, trivial⟩, ⟨hp10, ⟨ov, rows, hl10, by rw [List.length_set]; exact hrn⟩, hat10⟩, ?_, hm9.keep fun n hn => hk10 n (by omega), ?_, ?_, ?_, fun e => absurd hps e, ?_⟩
      · simp only [if_pos hps]
        exact hs9.keep (hk10 _ (by simp))
      · simp only [if_pos hps]
        exact (hr8.keep (hf9 _ (by simp))).keep (hk10 _ (by simp))
      · simp only [if_pos hps]
        exact (ha8.keep (hf9 _ (by simp))).keep (hk10 _ (by simp))
      · exact (hsl8.keep (hf9 _ (by simp))).keep (hk10 _ (by simp))
      · intro n hn
        exact (hk10 n (by omega)).trans ((hf9 n (fun e => by subst e; simp at hn)).trans (hk8 n (by omega) (by omega) (by omega)))
    · have hps : px ≠ (sI : Int) := of_decide_eq_false hc
      have hsep : ss.ep = nil0 ∧ sI ≠ 0 := by
        have hsI0 : sI ≠ 0 := by
          rcases hpx with e | e
          · exact hmode e
          · intro e2; omega
        refine ⟨?_, hsI0⟩
        have : stsA1[sI]? = some sv0 := by
          rcases hor with ⟨_, _, _, e⟩ | ⟨_, _, e⟩
          · rw [e]; exact hs0 hsI0
          · rw [e, List.getElem?_set_ne (Ne.symm hsI0)]; exact hs0 hsI0
        rw [this] at hss
        cases hss
        rfl
      -- region 14: the new slice
      have hp5 := hp4.new (21, 0) (cellsO (List.replicate (pl.length + F.exp.length) (.int .i32 0)) 21)
      have hk5 : ∀ n : Nat × Nat, n.1 ≠ 21 → hup h4 (21, 0) (some (w4.heap.size, cellsO (List.replicate (pl.length + F.exp.length) (.int .i32 0)) 21)) n = h4 n := fun n hn => hup_ne (fun e => by subst e; simp at hn)
      have hs5 : Sl (hup h4 (21, 0) (some (w4.heap.size, cellsO (List.replicate (pl.length + F.exp.length) (.int .i32 0)) 21))) (21, 0) 21 1 (.slice (some ⟨w4.heap.size, 0, none⟩) 0 (pl.length + F.exp.length)) 0 [] :=
        ⟨by simp, .inr ⟨_, _, _, rfl, hup_same, by omega, by unfold maxLen; omega, by simp, by simp⟩⟩
      refine J.seq ?_
      refine J.region ?_    -- region 14
      refine JL.val (Run.move rfl) ?_
      refine JL.val (Run.move rfl) ?_
      refine JL.val (Run.nil rfl) ?_
      refine JL.val (Run.field fl60_7 rfl) ?_
      refine JL.val (Run.load t22 rfl (hm4.cells hp4).2.2.2.2.1) ?_
      refine JL.val (Run.len Yba.underlying22 rfl) ?_
      refine JL.val (Run.add (c := ((pl.length + F.exp.length : Nat) : Int)) rfl rfl (by omega) (by omega) (by omega)) ?_
      refine JL.val (Run.make (l := 0) (c := pl.length + F.exp.length) el22 z21 (zs := [.int .i32 0]) rfl rfl rfl (by omega) (by omega) (by omega)) ?_
      rw [rep_one]
      refine JL.val (Run.assign rfl) ?_
      refine JL.to (fun _ _ h => h) ?_
      generalize hup h4 (21, 0) (some (w4.heap.size, cellsO (List.replicate (pl.length + F.exp.length) (.int .i32 0)) 21)) = h5 at *
      generalize w4.alloc (cellsO (List.replicate (pl.length + F.exp.length) (.int .i32 0)) 21) = w5 at *
      generalize w4.heap.size = nb at *
      -- region 15: both appends
      have hm5 : Mg h5 mb va vb F.l nil0 nil0 (.slice epa F.exp.length epc) sv3 := hm4.keep fun n hn => hk5 n (by omega)
      have hhd := hhead _ _ hp5.drew ((hk5 _ (by simp)).trans (hf4 _ (by simp)))
      obtain ⟨v6, w6, h6, hrun6, hp6, hs6, hf6⟩ := appendR (P := Yba.prog) (T := 22) hp5.drew el22 hs5 hhd (by simp) (i32s_one _) (by omega) (by omega)
      rw [Nat.zero_add, List.nil_append] at hs6
      have hm6 : Mg h6 mb va vb F.l nil0 nil0 (.slice epa F.exp.length epc) sv3 := hm5.keep fun n hn => hf6 n (fun e => by subst e; simp at hn)
      have hsl6 : Sl h6 (15, 0) 21 1 (.slice epa F.exp.length epc) F.exp.length (i32s F.exp) := (hsl4.keep (hk5 _ (by simp))).keep (hf6 _ (by simp))
      obtain ⟨v7, w7, h7, hrun7, hp7, hs7, hf7⟩ := appendR (P := Yba.prog) (T := 22) hp6 el22 hs6 (hsl6.rd hp6) (by simp) (i32s_one _) (by omega) (by omega)
      have hm7 : Mg h7 mb va vb F.l nil0 nil0 (.slice epa F.exp.length epc) sv3 := hm6.keep fun n hn => hf7 n (fun e => by subst e; simp at hn)
      have hk7 : ∀ n : Nat × Nat, n.1 ≠ 21 → h7 n = h4 n := fun n hn => by rw [hf7 n (fun e => by subst e; simp at hn), hf6 n (fun e => by subst e; simp at hn)]; exact hk5 n hn
      have hat7 : At h7 1 sI ss rb cur := hat.keep (hk7 _ (by simp))
      have hle7 : LsE h7 1 va ST := hle4.keep fun n hn => hk7 n (by omega)
      obtain ⟨ov, rows, hl7, hrn⟩ := hle7
      obtain ⟨hlt8, hp8, hl8, hat8⟩ := hl7.set (j := 1) (u := v7) (s' := ⟨ss.star, ss.ed, v7, ss.indeg, ss.stars⟩) hp7 (by omega) hss4 hat7 (by omega) rfl (hl7.edg sI ss hss4)
      have hSa : w5.drew.cell? ⟨mb, 7, none⟩ = some (.slice epa F.exp.length epc) := (hm5.cells hp5.drew).2.2.2.2.1
      have hSb : w6.cell? ⟨mb, 7, none⟩ = some (.slice epa F.exp.length epc) := (hm6.cells hp6).2.2.2.2.1
      have hSc : w7.cell? ⟨mb, 7, none⟩ = some (.slice epa F.exp.length epc) := (hm7.cells hp7).2.2.2.2.1
      refine J.seq ?_
      refine J.draw (fun x => x.cell? ⟨mb, 7, none⟩ = some (.slice epa F.exp.length epc)) 13 [(0, true), (1, true), (2, true), (3, true), (4, true), (6, true), (7, true), (8, true), (9, true), (5, false), (10, false), (11, false), (12, true), (13, false)] (by kernel_rfl) (by kernel_rfl) ?_
      refine JS.take (i := 0) rfl hSa (fun w' hw' => Run.move rfl) ?_
      refine JS.take (i := 1) rfl hSa (fun w' hw' => Run.move rfl) ?_
      refine JS.take (i := 2) rfl hSa (fun w' hw' => Run.move rfl) ?_
      refine JS.take (i := 3) rfl hSa (fun w' hw' => Run.move rfl) ?_
      refine JS.take (i := 4) rfl hSa (fun w' hw' => Run.sliceHi (h := pl.length) Yba.underlying22 c21 (by decide) rfl rfl (by omega)) ?_
      refine JS.take (i := 6) rfl hSa (fun w' hw' => Run.move rfl) ?_
      refine JS.take (i := 7) rfl hSa (fun w' hw' => Run.nil rfl) ?_
      refine JS.take (i := 8) rfl hSa (fun w' hw' => Run.field fl60_7 rfl) ?_
      refine JS.take (i := 9) rfl hSa (fun w' hw' => Run.load t22 rfl hw') ?_
      refine JS.loud (i := 5) rfl (Run.append rfl rfl hrun6) (fun _ => hSb) ?_
      refine JS.loud (i := 10) rfl (Run.append rfl rfl hrun7) (fun _ => hSc) ?_
      refine JS.loud (i := 11) rfl (Run.nil rfl) (fun _ => hSc) ?_
      refine JS.take (i := 12) rfl hSc (fun w' hw' => Run.field fl48_1 rfl) ?_
      refine JS.eff (i := 13) rfl (Run.store c22 rfl rfl hs7.one (hp7.blk hat7.blk) hlt8) (fun h => absurd rfl h) ?_
      refine JS.to (fun _ _ h => h) ?_
      have hk8 : ∀ n : Nat × Nat, n.1 ≠ 2 → hup h7 (1 + 1, sI / 16384) (some (rb, cellsO (cur.set (sI % 16384 * 5 + 1) v7) 48)) n = h7 n := fun n hn => hup_ne (fun e => by subst e; simp at hn)
      generalize hup h7 (1 + 1, sI / 16384) (some (rb, cellsO (cur.set (sI % 16384 * 5 + 1) v7) 48)) = h8 at *
      generalize Fw.stl w7 rb (cur.set (sI % 16384 * 5 + 1) v7) = w8 at *
      -- region 16: added
      have hm8 : Mg h8 mb va vb F.l nil0 nil0 (.slice epa F.exp.length epc) sv3 := hm7.keep fun n hn => hk8 n (by omega)
      have hs8 : Sl h8 (21, 0) 21 1 v7 (pl.length + F.exp.length) (i32s (nI pl) ++ i32s F.exp) := hs7.keep (hk8 _ (by simp))
      obtain ⟨v9, w9, h9, hrun9, hp9, hs9, hf9⟩ := appendR (P := Yba.prog) (T := 22) hp8.drew el22 (Sl.nil h8 (14, 0) 21 1) (hs8.rd hp8.drew) (by simp) (by
        intro u hu
        rcases List.mem_append.1 hu with hu | hu
        · exact i32s_one _ u hu
        · exact i32s_one _ u hu) (by omega) (by omega)
      rw [Nat.zero_add, List.nil_append] at hs9
      have hm9 : Mg h9 mb va vb F.l nil0 nil0 (.slice epa F.exp.length epc) sv3 := hm8.keep fun n hn => hf9 n (fun e => by subst e; simp at hn)
      obtain ⟨cs9, hcs9, hcl9, _, hset9, _⟩ := hm9.set hp9
      obtain ⟨hp10, hm10⟩ := hset9 v9
      have hcS : ∀ x hh, Hp w0 x hh → At hh 1 sI ⟨ss.star, ss.ed, v7, ss.indeg, ss.stars⟩ rb (cur.set (sI % 16384 * 5 + 1) v7) → Mg hh mb va vb F.l nil0 nil0 (.slice epa F.exp.length epc) sv3 → x.cell? ⟨mb, 5, none⟩ = some nil0 ∧ x.cell? ⟨rb, sI % 16384 * 5 + 1, none⟩ = some v7 := fun x hh hx ha hmm =>
        ⟨(hmm.cells hx).2.2.2.1, hx.cell ha.blk (ha.get 1 v7 rfl)⟩
      have hS8 := hcS _ _ hp8.drew hat8 hm8
      have hS9 := hcS _ _ hp9 (hat8.keep (hf9 _ (by simp))) hm9
      refine J.draw (fun x => x.cell? ⟨mb, 5, none⟩ = some nil0 ∧ x.cell? ⟨rb, sI % 16384 * 5 + 1, none⟩ = some v7) 12 [(0, true), (1, true), (2, true), (3, true), (4, true), (5, true), (6, true), (7, true), (8, true), (9, false), (10, false), (11, true), (12, false)] (by kernel_rfl) (by kernel_rfl) ?_
      refine JS.take (i := 0) rfl hS8 (fun w' hw' => Run.move rfl) ?_
      refine JS.take (i := 1) rfl hS8 (fun w' hw' => Run.move rfl) ?_
      refine JS.take (i := 2) rfl hS8 (fun w' hw' => Run.nil rfl) ?_
      refine JS.take (i := 3) rfl hS8 (fun w' hw' => Run.field fl60_5 rfl) ?_
      refine JS.take (i := 4) rfl hS8 (fun w' hw' => Run.load t22 rfl hw'.1) ?_
      refine JS.take (i := 5) rfl hS8 (fun w' hw' => Run.move rfl) ?_
      refine JS.take (i := 6) rfl hS8 (fun w' hw' => Run.nil rfl) ?_
      refine JS.take (i := 7) rfl hS8 (fun w' hw' => Run.field fl48_1 rfl) ?_
      refine JS.take (i := 8) rfl hS8 (fun w' hw' => Run.load t22 rfl hw'.2) ?_
      refine JS.loud (i := 9) rfl (Run.append rfl rfl hrun9) (fun _ => hS9) ?_
      refine JS.loud (i := 10) rfl (Run.nil rfl) (fun _ => hS9) ?_
      refine JS.take (i := 11) rfl hS9 (fun w' hw' => Run.field fl60_5 rfl) ?_
      refine JS.eff (i := 12) rfl (Run.store c22 rfl rfl hs9.one (hp9.blk hcs9) (by omega)) (fun h => absurd rfl h) ?_
      rw [show 0 + 5 = 5 from rfl]
      have hk10 : ∀ n : Nat × Nat, n.1 ≠ 10 → hup h9 (10, 0) (some (mb, cellsO (cs9.set 5 v9) 60)) n = h9 n := fun n hn => hup_ne (fun e => by subst e; simp at hn)
      generalize hup h9 (10, 0) (some (mb, cellsO (cs9.set 5 v9) 60)) = h10 at *
      have hkA : ∀ n : Nat × Nat, n.1 ≠ 10 → n.1 ≠ 14 → h10 n = h8 n := fun n h1 h2 => (hk10 n h1).trans (hf9 n (fun e => by subst e; simp at h2))
      have hkB : ∀ n : Nat × Nat, n.1 ≠ 10 → n.1 ≠ 14 → n.1 ≠ 2 → n.1 ≠ 21 → h10 n = h4 n := fun n h1 h2 h3 h4 => (hkA n h1 h2).trans ((hk8 n h3).trans (hk7 n h4))
      have e20 : i32s (nI pl ++ F.exp) = i32s (nI pl) ++ i32s F.exp := by simp
      refine JS.nil fun a ha => ⟨(h10, ⟨ss.star, ss.ed, v7, ss.indeg, ss.stars⟩, cur.set (sI % 16384 * 5 + 1) v7, nil0, v9), ha.sub ⟨rfl, rfl, trivial⟩, ⟨hp10, ?_, hat8.keep (hkA _ (by simp) (by simp))⟩, ?_, hm10, ?_, ?_, ?_, fun _ => hkB _ (by simp) (by simp) (by simp) (by simp), ?_⟩
      · have hle8 : LsE h8 1 va (ST.set sI ⟨ss.star, ss.ed, v7, ss.indeg, ss.stars⟩) := ⟨ov, rows, hl8, by rw [List.length_set]; exact hrn⟩
        exact hle8.keep fun n hn => hkA n (by omega) (by omega)
      · simp only [if_neg hps]
        rw [e20]
        exact hs8.keep (hkA _ (by simp) (by simp))
      · simp only [if_neg hps]
        exact Sl.nil _ _ _ _
      · simp only [if_neg hps]
        rw [e20]
        exact hs9.keep (hk10 _ (by simp))
      · exact hsl4.keep (hkB _ (by simp) (by simp) (by simp) (by simp))
      · intro n hn
        exact hkB n (by omega) (by omega) (by omega) (by omega)
  · rintro ⟨h5, ss5, cur5, rv5, av5⟩ w5 ⟨⟨hp5, hle5, hat5⟩, hs5, hm5, hr5, ha5, he5, hx5, hf5⟩
    simp only at hp5 hle5 hat5 hs5 hm5 hr5 ha5 he5 hx5 hf5 ⊢
    have hss5 : (ST.set sI ss5)[sI]? = some ss5 := List.getElem?_set_self hsIl
    obtain ⟨ov, rows, hl5, hrn⟩ := hle5
    rw [List.length_set] at hrn
    obtain ⟨hlt6, hp6, hl6, hat6⟩ := hl5.set (j := 4) (u := .int .i32 (((F.exp.length : Int) - (yl : Int)) + 1)) (s' := ⟨ss5.star, ss5.ed, ss5.ep, ss5.indeg, ((F.exp.length : Int) - (yl : Int)) + 1⟩) hp5 (by omega) hss5 hat5 (by omega) rfl (hl5.edg sI ss5 hss5)
    refine J.region ?_    -- region 17
    refine JL.val (Run.move rfl) ?_
    refine JL.val (Run.move rfl) ?_
    refine JL.val ((Run.convW Yba.underlying21 ⟨_, Yba.underlying3⟩ rfl).to (v' := .int .i32 ((F.exp.length : Int) - (yl : Int))) (by rw [wrap_id32 (by omega) (by omega)])) ?_
    refine JL.val ((Run.addW rfl rfl).to (v' := .int .i32 (((F.exp.length : Int) - (yl : Int)) + 1)) (by rw [wrap_id32 (by omega) (by omega)])) ?_
    refine JL.val (Run.nil rfl) ?_
    refine JL.val (Run.field fl48_4 rfl) ?_
    refine JL.eff (Run.store c21 rfl rfl rfl (hp5.blk hat5.blk) hlt6) ?_
    refine JL.nil ?_
    refine fall0 Yba.f19 R rfl ?_
    rw [List.set_set] at hl6
    have hk6 : ∀ n : Nat × Nat, n.1 ≠ 2 → hup h5 (1 + 1, sI / 16384) (some (rb, cellsO (cur5.set (sI % 16384 * 5 + 4) (.int .i32 (((F.exp.length : Int) - (yl : Int)) + 1))) 48)) n = h5 n := fun n hn => hup_ne (fun e => by subst e; simp at hn)
    refine hR _ _ _ rv5 av5 (.slice epa F.exp.length epc) sv3 ⟨hp6, ⟨ov, rows, hl6, by rw [List.length_set]; exact hrn⟩, by rw [List.length_set]; exact hSL, ⟨_, List.getElem?_set_self hsIl, rfl, ?_⟩, ?_, ?_, ?_, ?_, ?_, ?_⟩
    · refine hs5.keep (hk6 _ ?_)
      split <;> simp
    · exact hm5.keep fun n hn => hk6 n (by omega)
    · exact hr5.keep (hk6 _ (by simp))
    · exact ha5.keep (hk6 _ (by simp))
    · exact he5.keep (hk6 _ (by simp))
    · intro e1 e2
      obtain ⟨g1, g2⟩ := hx04 e1 e2
      have hsI0 : sI ≠ 0 := fun e => e2 (by rw [e1, e]; rfl)
      refine ⟨_, (by rw [List.getElem?_set_ne hsI0]; exact g1), by simp, ?_⟩
      exact (g2.keep (hx5 e2)).keep (hk6 _ (by simp))
    · intro n hn
      rw [hk6 n (by omega), hf5 n hn, hf4 n (by omega), hf2 n (by omega) (by omega) (by omega)]
      exact hk1 n (fun e => by subst e; simp at hn)
end Go.Proofs.Ybulkpgu
