/-
  (*staging).index: one follower's place is listed on each host of its slots.
-/
import Derived.Test.YbulkpiyMarks
namespace Go.Proofs.Ybulkpiy
open Go.Fw Go.RowKit
attribute [local simp] Go.Fw.stl_size

/-- What one slot's host does to the rows. -/
def stepRow (i : Int) (rs : List (List Int)) (h : Nat) : List (List Int) :=
  if ((rs ++ List.replicate (h + 1 - rs.length) []).getD h []).getLast? = some i then rs ++ List.replicate (h + 1 - rs.length) []
  else (rs ++ List.replicate (h + 1 - rs.length) []).set h ((rs ++ List.replicate (h + 1 - rs.length) []).getD h [] ++ [i])

theorem foldl_snoc {α β : Type} (f : β → α → β) (b : β) (xs : List α) (j : Nat) (x : α) (h : xs[j]? = some x) : (xs.take (j + 1)).foldl f b = f ((xs.take j).foldl f b) x := by
  have hj : j < xs.length := by
    rcases Nat.lt_or_ge j xs.length with h' | h'
    · exact h'
    · simp [List.getElem?_eq_none h'] at h
  have : xs[j] = x := by rw [List.getElem?_eq_getElem hj] at h; exact Option.some.inj h
  rw [List.take_succ_eq_append_getElem hj, this, List.foldl_append]
  rfl

/-- What index reads: none of it belongs to the marks. -/
structure IdxIn (w : World) (sb i mb slb : Nat) (hs : List Nat) : Prop where
  rd : ∃ fb n fcap rb, w.cell? ⟨sb, 8, none⟩ = some (.slice (some ⟨fb, 0, none⟩) n fcap) ∧ i < n ∧
    w.cell? ⟨fb, i * 8 + 1, none⟩ = some (.pointer (some ⟨mb, 0, none⟩)) ∧ w.cell? ⟨fb, i * 8, none⟩ = some (.pointer (some ⟨rb, 0, none⟩)) ∧
    w.cell? ⟨rb, 12, none⟩ = some (.slice (some ⟨slb, 0, none⟩) hs.length hs.length)
  slot : ∀ (j h : Nat), hs[j]? = some h → w.cell? ⟨slb, j * 2, none⟩ = some (.int .i64 (h : Int)) ∧ w.cell? ⟨slb, j * 2 + 1, none⟩ = some (.int .i64 0)

set_option maxRecDepth 100000
theorem index_calls (w : World) (N sb i slb L : Nat) (hs : List Nat) (m : Mk) (hm : MkOk w N m) (hN : N ≤ w.heap.size) (hin : IdxIn w sb i m.b slb hs) (hslb : ¬ m.foot slb) (hh : ∀ h ∈ hs, h < 16)
    (hlen : hs.length ≤ 1000000) (hrl : m.rows.length ≤ 1000) (hL : ∀ r ∈ m.rows, r.2.length ≤ L) (hLb : L ≤ 1000000)
    (R : Ending → World → Prop) (hR : ∀ w' m', MkOk w' N m' → Upd w w' m.foot m'.foot → m'.b = m.b → m'.rows.length ≤ 1000 → (∀ r ∈ m'.rows, r.2.length ≤ L + hs.length) → m'.lists = hs.foldl (stepRow (i : Int)) m.lists → R (.returned (.tuple #[])) w') :
    Calls Yba.prog 9 #[.pointer (some ⟨sb, 0, none⟩), .int .i64 (i : Int)] w R := by
  obtain ⟨fb, n, fcap, rb, hc1, hin1, hc2, hc3, hc4⟩ := hin.rd
  refine calls (args := [_, _]) (m := 2) Yba.func9 rfl rfl rfl (by decide) ?_
  refine J.seq ?_
  refine J.region ?_    -- region 0
  refine JL.val (Run.move rfl) ?_    -- s9 := move t0
  refine JL.val (Run.nil rfl) ?_    -- s10 := nilCheck t9
  refine JL.val (Run.field fl53_4 rfl) ?_    -- s11 := field 53 t10 .4
  refine JL.val (Run.load t41 rfl hc1) ?_    -- s12 := load 41 [t11]
  refine JL.val (Run.move rfl) ?_    -- s13 := move t1
  refine JL.val (Run.index Yba.underlying41 c74 (by decide) rfl rfl hin1) ?_    -- s14 := index 41 t12 [t13]
  refine JL.val (Run.assign rfl) ?_    -- s4 := assign t14
  refine JL.to (fun _ _ h => h) ?_
  refine J.seq ?_
  refine J.region ?_    -- region 1
  refine JL.val (Run.move rfl) ?_    -- s15 := move t4
  refine JL.val (Run.nil rfl) ?_    -- s16 := nilCheck t15
  refine JL.val (Run.field fl74_1 rfl) ?_    -- s17 := field 74 t16 .1
  refine JL.val (Run.load t55 rfl (by rw [Nat.zero_add]; exact hc2)) ?_    -- s18 := load 55 [t17]
  refine JL.val (Run.assign rfl) ?_    -- s5 := assign t18
  refine JL.to (fun _ _ h => h) ?_
  refine J.seq ?_
  refine J.region ?_    -- region 2
  refine JL.val (Run.move rfl) ?_    -- s19 := move t4
  refine JL.val (Run.nil rfl) ?_    -- s20 := nilCheck t19
  refine JL.val (Run.field fl74_0 rfl) ?_    -- s21 := field 74 t20 .0
  refine JL.val (Run.load t63 rfl (by rw [Nat.zero_add]; exact hc3)) ?_    -- s22 := load 63 [t21]
  refine JL.val (Run.nil rfl) ?_    -- s23 := nilCheck t22
  refine JL.val (Run.field fl70_12 rfl) ?_    -- s24 := field 70 t23 .12
  refine JL.val (Run.load t67 rfl hc4) ?_    -- s25 := load 67 [t24]
  refine JL.val (Run.len Yba.underlying67 rfl) ?_    -- s26 := builtin Builtin.len(t25) [67]
  refine JL.val (Run.move rfl) ?_    -- s27 := move c:0:i64
  refine JL.to (fun _ _ h => h) ?_
  refine J.block ?_    -- block 0
  refine J.loop (ι := Nat × Mk) (fun x => [(1, .int .i64 (i : Int)), (5, .pointer (some ⟨m.b, 0, none⟩)), (25, .slice (some ⟨slb, 0, none⟩) hs.length hs.length), (26, .int .i64 (hs.length : Int)), (27, .int .i64 (x.1 : Int))])
    (fun x w' => MkOk w' N x.2 ∧ Upd w w' m.foot x.2.foot ∧ x.2.b = m.b ∧ x.1 ≤ hs.length ∧ x.2.rows.length ≤ 1000 ∧ (∀ r ∈ x.2.rows, r.2.length ≤ L + x.1) ∧ x.2.lists = (hs.take x.1).foldl (stepRow (i : Int)) m.lists)
    (fun x => hs.length - x.1) (0, m) ⟨rfl, rfl, rfl, rfl, rfl, trivial⟩ ⟨hm, Upd.refl _ _, rfl, by omega, hrl, by simpa using hL, by simp⟩ ?_
  rintro ⟨j, ⟨mb, ov, rows⟩⟩ w1 ⟨hok, hupd, hmb, hj, hrl1, hL1, hls⟩
  simp only at hmb hj hrl1 hL1 hls
  subst hmb
  refine J.seq ?_
  refine J.region ?_    -- region 3
  refine JL.val (Run.lss rfl rfl) ?_    -- s28 := lss t27 t26
  refine JL.to (fun _ _ h => h) ?_
  refine J.seq ?_
  refine J.cond rfl (fun hc => ?_) (fun hc => ?_)    -- if t28
  rotate_left
  · have hjl : j = hs.length := by have := of_decide_eq_false hc; omega
    subst hjl
    refine J.exit fun a ha => ?_
    exact fall0 Yba.f9 R rfl (hR _ _ hok hupd rfl hrl1 hL1 (by simpa using hls)) a ha
  have hlt : j < hs.length := by have := of_decide_eq_true hc; omega
  refine J.skipTo (fun _ _ h => h) ?_
  obtain ⟨h, hhj⟩ : ∃ h, hs[j]? = some h := ⟨hs[j], List.getElem?_eq_getElem hlt⟩
  have hh16 : h < 16 := hh h (List.mem_of_getElem? hhj)
  obtain ⟨hs1, hs2⟩ := hin.slot j h hhj
  have hs1 := hupd.cell hs1 hslb
  have hs2 := hupd.cell hs2 hslb
  have hsn := foldl_snoc (stepRow (i : Int)) m.lists hs j h hhj
  refine J.seq ?_
  refine J.block ?_    -- block 1
  refine J.seq ?_
  refine J.region ?_    -- region 4
  refine JL.val (Run.index Yba.underlying67 c72 (by decide) rfl rfl hlt) ?_    -- s29 := index 67 t25 [t27]
  refine JL.val (Run.loadA (cs := [.int .i64 (h : Int), .int .i64 0]) ta72 rfl ?_) ?_    -- s30 := load 72 [t29]
  · intro k v hk
    match k with
    | 0 => cases hk; simpa using hs1
    | 1 => cases hk; simpa using hs2
    | k + 2 => simp at hk
  refine JL.val (Run.alloc (l := [.int .i64 0, .int .i64 0]) z72 rfl) ?_    -- s7 := alloc 72
  refine JL.eff (Run.storeNew (cs := [.int .i64 (h : Int), .int .i64 0]) c72 (by simp) rfl rfl (by simp [Value.oneCell']) rfl) ?_    -- sNone := store 72 [t7] := t30
  have htb := Blk.new w1 72 [.int .i64 (h : Int), .int .i64 0]
  have hntb : ¬ Mk.foot ⟨m.b, ov, rows⟩ w1.heap.size := fun hf => by have := (hok.lt hf).2; omega
  have hntb0 : w.heap.size ≤ w1.heap.size := hupd.size
  have hok2 := hok.alloc (.cells [.int .i64 (h : Int), .int .i64 0].toArray 72)
  have hupd2 := hupd.alloc (.cells [.int .i64 (h : Int), .int .i64 0].toArray 72)
  refine JL.to (fun _ _ h => h) ?_
  generalize w1.alloc (.cells [.int .i64 (h : Int), .int .i64 0].toArray 72) = w2 at *
  generalize w1.heap.size = tb at *
  clear hs1 hs2 hok hupd
  obtain ⟨oa, oc, hov⟩ := ovSlice hok2.outer
  simp only at hov
  subst hov
  refine J.mid (ι := Mk) (fun x => [(1, .int .i64 (i : Int)), (5, .pointer (some ⟨m.b, 0, none⟩)), (7, .pointer (some ⟨tb, 0, none⟩)), (25, .slice (some ⟨slb, 0, none⟩) hs.length hs.length), (26, .int .i64 (hs.length : Int)), (27, .int .i64 (j : Int))])
    (fun x w' => MkOk w' N x ∧ Upd w w' m.foot x.foot ∧ x.b = m.b ∧ Blk w' tb 72 [.int .i64 (h : Int), .int .i64 0] ∧ ¬ x.foot tb ∧ h < x.rows.length ∧ x.rows.length ≤ 1000 ∧ (∀ r ∈ x.rows, r.2.length ≤ L + j) ∧
      x.lists = rows.map (·.2) ++ List.replicate (h + 1 - rows.length) []) ?_ ?_
  · refine J.seq ?_
    -- region 5 draws
    have hS : Blk w2.drew m.b 59 (mkl (.slice oa rows.length oc)) ∧ Blk w2.drew tb 72 [.int .i64 (h : Int), .int .i64 0] := ⟨hok2.blk, htb⟩
    refine J.draw (fun x => Blk x m.b 59 (mkl (.slice oa rows.length oc)) ∧ Blk x tb 72 [.int .i64 (h : Int), .int .i64 0]) 8 [(0, true), (1, true), (2, true), (3, true), (4, true), (5, true), (6, true), (7, true)] (by kernel_rfl) (by kernel_rfl) ?_
    refine JS.take (i := 0) rfl hS (fun w' hw' => Run.field fl72_0 rfl) ?_    -- s31 := field 72 t7 .0
    refine JS.take (i := 1) rfl hS (fun w' hw' => Run.load t3 rfl (hw'.2.cell rfl)) ?_    -- s32 := load 3 [t31]
    refine JS.take (i := 2) rfl hS (fun w' hw' => Run.move rfl) ?_    -- s33 := move t5
    refine JS.take (i := 3) rfl hS (fun w' hw' => Run.nil rfl) ?_    -- s34 := nilCheck t33
    refine JS.take (i := 4) rfl hS (fun w' hw' => Run.field fl59_2 rfl) ?_    -- s35 := field 59 t34 .2
    refine JS.take (i := 5) rfl hS (fun w' hw' => Run.load t57 rfl (hw'.1.cell rfl)) ?_    -- s36 := load 57 [t35]
    refine JS.take (i := 6) rfl hS (fun w' hw' => Run.len Yba.underlying57 rfl) ?_    -- s37 := builtin Builtin.len(t36) [57]
    refine JS.take (i := 7) rfl hS (fun w' hw' => Run.geq rfl rfl) ?_    -- s38 := geq t32 t37
    refine JS.to (fun _ _ h => h) ?_
    refine J.cond rfl (fun hc => ?_) (fun hc => ?_)    -- if t38
    · have hge : rows.length ≤ h := by have := of_decide_eq_true hc; omega
      obtain ⟨d, hd⟩ : ∃ d, h + 1 = rows.length + d := ⟨h + 1 - rows.length, by omega⟩
      obtain ⟨b', cap', w4, hrun, hown, hg, hb', hlt'⟩ := append_zeros_ex (w := w2.drew.drew) (T := 57) (U := 3) (m := d) el57 z60 rfl Yba.underlying3 hok2.drew.drew.outer (by omega) (by simp only; omega) (by omega) (Nat.le_trans hN hupd2.size)
      simp only at hown hg hb' hrun
      have hok4 := MkOk.extend (d := d) hok2.drew.drew hg hown hb'
      have htb4 : Blk w4 tb 72 [.int .i64 (h : Int), .int .i64 0] := Blk.grown (w := w2.drew.drew) htb hg (fun e => hntb (.inr (.inl e.symm)))
      have hmb4 : Blk w4 m.b 59 (mkl (.slice oa rows.length oc)) := Blk.grown (w := w2.drew.drew) hok2.blk hg (fun e => hok2.ob e.symm)
      -- region 6 draws
      have hS : Blk w2.drew.drew m.b 59 (mkl (.slice oa rows.length oc)) ∧ Blk w2.drew.drew tb 72 [.int .i64 (h : Int), .int .i64 0] := ⟨hok2.blk, htb⟩
      refine J.draw (fun x => Blk x m.b 59 (mkl (.slice oa rows.length oc)) ∧ Blk x tb 72 [.int .i64 (h : Int), .int .i64 0]) 17 [(0, true), (1, true), (2, true), (3, true), (4, true), (5, true), (6, true), (7, true), (8, true), (9, true), (10, true), (11, true), (12, true), (13, true), (14, false), (15, false), (16, true), (17, false)] (by kernel_rfl) (by kernel_rfl) ?_
      refine JS.take (i := 0) rfl hS (fun w' hw' => Run.move rfl) ?_    -- s39 := move t5
      refine JS.take (i := 1) rfl hS (fun w' hw' => Run.move rfl) ?_    -- s40 := move t5
      refine JS.take (i := 2) rfl hS (fun w' hw' => Run.nil rfl) ?_    -- s41 := nilCheck t40
      refine JS.take (i := 3) rfl hS (fun w' hw' => Run.field fl59_2 rfl) ?_    -- s42 := field 59 t41 .2
      refine JS.take (i := 4) rfl hS (fun w' hw' => Run.load t57 rfl (hw'.1.cell rfl)) ?_    -- s43 := load 57 [t42]
      refine JS.take (i := 5) rfl hS (fun w' hw' => Run.field fl72_0 rfl) ?_    -- s44 := field 72 t7 .0
      refine JS.take (i := 6) rfl hS (fun w' hw' => Run.load t3 rfl (hw'.2.cell rfl)) ?_    -- s45 := load 3 [t44]
      refine JS.take (i := 7) rfl hS (fun w' hw' => Run.add (c := ((h + 1 : Nat) : Int)) rfl rfl (by omega) (by omega) (by omega)) ?_    -- s46 := add t45 c:1:i64
      refine JS.take (i := 8) rfl hS (fun w' hw' => Run.move rfl) ?_    -- s47 := move t5
      refine JS.take (i := 9) rfl hS (fun w' hw' => Run.nil rfl) ?_    -- s48 := nilCheck t47
      refine JS.take (i := 10) rfl hS (fun w' hw' => Run.field fl59_2 rfl) ?_    -- s49 := field 59 t48 .2
      refine JS.take (i := 11) rfl hS (fun w' hw' => Run.load t57 rfl (hw'.1.cell rfl)) ?_    -- s50 := load 57 [t49]
      refine JS.take (i := 12) rfl hS (fun w' hw' => Run.len Yba.underlying57 rfl) ?_    -- s51 := builtin Builtin.len(t50) [57]
      refine JS.take (i := 13) rfl hS (fun w' hw' => Run.sub (c := (d : Int)) rfl rfl (by omega) (by omega) (by omega)) ?_    -- s52 := sub t46 t51
      have hS4 : Blk w4 m.b 59 (mkl (.slice oa rows.length oc)) ∧ Blk w4 tb 72 [.int .i64 (h : Int), .int .i64 0] := ⟨hmb4, htb4⟩
      refine JS.loud (i := 14) rfl (Run.append rfl rfl hrun) (fun _ => hS4) ?_    -- s53 := builtin Builtin.append(t43, t52) [57,3]
      refine JS.loud (i := 15) rfl (Run.nil rfl) (fun _ => hS4) ?_    -- s54 := nilCheck t39
      refine JS.take (i := 16) rfl hS4 (fun w' hw' => Run.field fl59_2 rfl) ?_    -- s55 := field 59 t54 .2
      refine JS.eff (i := 17) rfl (Run.store c57 rfl rfl rfl hmb4 (by simp)) (fun h => absurd rfl h) ?_    -- sNone := store 57 [t55] := t53
      refine JS.nil fun a ha => ⟨_, ha.sub ⟨rfl, rfl, rfl, rfl, rfl, rfl, trivial⟩, hok4, ?_, rfl, ?_, ?_, ?_, ?_, ?_, ?_⟩
      · refine (((hupd2.drew.drew.grown (A' := Mk.foot ⟨m.b, .slice (some ⟨b', 0, none⟩) (rows.length + d) cap', rows ++ List.replicate d (.slice none 0 0, [])⟩) hg (fun b hb => .inr (.inl hb)) ?_)).stl (.inl (.inl rfl)) _)
        intro b hb
        rcases hb with rfl | hb | ⟨r, hr, hb⟩
        · exact .inl (.inl rfl)
        · simp [Value.ownBlock] at hb
          subst hb
          rcases hb' with hb' | hb'
          · exact .inl (.inr (.inl hb'))
          · exact .inr (by omega)
        · rcases List.mem_append.1 hr with hr | hr
          · exact .inl (.inr (.inr ⟨r, hr, hb⟩))
          · rw [List.eq_of_mem_replicate hr] at hb
            simp [Value.ownBlock] at hb
      · exact htb4.stl_ne (fun e => hntb (e ▸ .inl rfl))
      · rintro (rfl | hb | ⟨r, hr, hb⟩)
        · exact hntb (.inl rfl)
        · simp [Value.ownBlock] at hb
          subst hb
          rcases hb' with hb' | hb'
          · exact hntb (.inr (.inl hb'))
          · have := htb.lt; simp at hb'; omega
        · rcases List.mem_append.1 hr with hr | hr
          · exact hntb (.inr (.inr ⟨r, hr, hb⟩))
          · rw [List.eq_of_mem_replicate hr] at hb
            simp [Value.ownBlock] at hb
      · simp; omega
      · simp; omega
      · intro r hr
        rcases List.mem_append.1 hr with hr | hr
        · exact hL1 r hr
        · rw [List.eq_of_mem_replicate hr]; simp
      · simp [Mk.lists, show h + 1 - rows.length = d by omega]
    · have hlt2 : h < rows.length := by have := of_decide_eq_false hc; omega
      refine J.skip fun a ha => ⟨_, ha.sub ⟨rfl, rfl, rfl, rfl, rfl, rfl, trivial⟩, hok2.drew, hupd2.drew, rfl, htb, hntb, hlt2, hrl1, hL1, ?_⟩
      simp [Mk.lists, show h + 1 - rows.length = 0 by omega]
  · clear hok2 hupd2 htb hntb hL1 hrl1
    rintro ⟨mb, ov, rows2⟩ w3 ⟨hok, hupd, hmb, htb, hntb, hhl, hrl2, hL2, hls2⟩
    simp only at hmb hhl hrl2 hL2
    subst hmb
    obtain ⟨og, oc2, hov⟩ := ownsRow_some hok.outer (by simp only; omega)
    simp only at hov
    subst hov
    obtain ⟨⟨rv, xs⟩, hrh⟩ : ∃ r, rows2[h]? = some r := ⟨rows2[h], List.getElem?_eq_getElem hhl⟩
    have hrow := hok.row _ (List.mem_of_getElem? hrh)
    simp only at hrow
    have hvh : (Mk.vals ⟨m.b, .slice (some ⟨og, 0, none⟩) rows2.length oc2, rows2⟩)[h]? = some rv := by simp [Mk.vals, hrh]
    have hcell : w3.cell? ⟨og, h, none⟩ = some rv := ownsRow_cell hok.outer hvh
    have hxl : xs.length ≤ L + j := hL2 _ (List.mem_of_getElem? hrh)
    have hgetD : (rows.map (·.2) ++ List.replicate (h + 1 - rows.length) ([] : List Int)).getD h [] = xs := by
      rw [← hls2]
      simp [Mk.lists, hrh]
    have hlists : Mk.lists ⟨m.b, .slice (some ⟨og, 0, none⟩) rows2.length oc2, rows2⟩ = rows.map (·.2) ++ List.replicate (h + 1 - rows.length) [] := hls2
    have hstep : stepRow (i : Int) (rows.map (·.2)) h = if xs.getLast? = some (i : Int) then rows2.map (·.2) else (rows2.map (·.2)).set h (xs ++ [(i : Int)]) := by
      unfold stepRow
      rw [List.length_map, hgetD, ← hlists]
      rfl
    have hls' : (hs.take (j + 1)).foldl (stepRow (i : Int)) m.lists = stepRow (i : Int) (rows.map (·.2)) h := by rw [hsn, ← hls]; rfl
    refine J.seq ?_
    -- region 7 draws
    have hS : Blk w3.drew m.b 59 (mkl (.slice (some ⟨og, 0, none⟩) rows2.length oc2)) ∧ Blk w3.drew tb 72 [.int .i64 (h : Int), .int .i64 0] ∧ w3.drew.cell? ⟨og, h, none⟩ = some rv := ⟨hok.blk, htb, hcell⟩
    refine J.draw (fun x => Blk x m.b 59 (mkl (.slice (some ⟨og, 0, none⟩) rows2.length oc2)) ∧ Blk x tb 72 [.int .i64 (h : Int), .int .i64 0] ∧ x.cell? ⟨og, h, none⟩ = some rv) 9 [(0, true), (1, true), (2, true), (3, true), (4, true), (5, true), (6, true), (7, true), (8, true)] (by kernel_rfl) (by kernel_rfl) ?_
    refine JS.take (i := 0) rfl hS (fun w' hw' => Run.move rfl) ?_    -- s56 := move t5
    refine JS.take (i := 1) rfl hS (fun w' hw' => Run.nil rfl) ?_    -- s57 := nilCheck t56
    refine JS.take (i := 2) rfl hS (fun w' hw' => Run.field fl59_2 rfl) ?_    -- s58 := field 59 t57 .2
    refine JS.take (i := 3) rfl hS (fun w' hw' => Run.load t57 rfl (hw'.1.cell rfl)) ?_    -- s59 := load 57 [t58]
    refine JS.take (i := 4) rfl hS (fun w' hw' => Run.field fl72_0 rfl) ?_    -- s60 := field 72 t7 .0
    refine JS.take (i := 5) rfl hS (fun w' hw' => Run.load t3 rfl (hw'.2.1.cell rfl)) ?_    -- s61 := load 3 [t60]
    refine JS.take (i := 6) rfl hS (fun w' hw' => Run.index Yba.underlying57 c60 (by decide) rfl rfl hhl) ?_    -- s62 := index 57 t59 [t61]
    refine JS.take (i := 7) rfl hS (fun w' hw' => Run.load t60 rfl (by simpa using hw'.2.2)) ?_    -- s63 := load 60 [t62]
    refine JS.take (i := 8) rfl hS (fun w' hw' => Run.assign rfl) ?_    -- s8 := assign t63
    refine JS.to (fun _ _ h => h) ?_
    obtain ⟨ra, rc, hrv⟩ := ovSlice hrow
    subst hrv
    refine J.mid (ι := Unit) (fun _ => [(1, .int .i64 (i : Int)), (5, .pointer (some ⟨m.b, 0, none⟩)), (7, .pointer (some ⟨tb, 0, none⟩)), (8, .slice ra xs.length rc), (25, .slice (some ⟨slb, 0, none⟩) hs.length hs.length), (26, .int .i64 (hs.length : Int)), (27, .int .i64 (j : Int)), (76, .bool (decide (¬ xs.getLast? = some (i : Int))))])
      (fun _ w' => w' = w3.drew) ?_ ?_
    · refine J.region ?_    -- region 8
      refine JL.val (Run.move rfl) ?_    -- s64 := move t8
      refine JL.val (Run.len Yba.underlying60 rfl) ?_    -- s65 := builtin Builtin.len(t64) [60]
      by_cases hx0 : xs.length = 0
      · have hxs : xs = [] := List.eq_nil_of_length_eq_zero hx0
        refine JL.val ((Run.eql rfl rfl).to (bt (by omega))) ?_    -- s66 := eql t65 c:0:i64
        refine JL.val (Run.move rfl) ?_    -- s67 := move t66
        refine JL.gskip rfl rfl ?_    -- s68 := move t8  G(3, False)
        refine JL.gskip rfl rfl ?_    -- s69 := move t8  G(3, False)
        refine JL.gskip rfl rfl ?_    -- s70 := builtin Builtin.len(t69) [60]  G(3, False)
        refine JL.gskip rfl rfl ?_    -- s71 := sub t70 c:1:i64  G(3, False)
        refine JL.gskip rfl rfl ?_    -- s72 := index 60 t68 [t71]  G(3, False)
        refine JL.gskip rfl rfl ?_    -- s73 := load 3 [t72]  G(3, False)
        refine JL.gskip rfl rfl ?_    -- s74 := move t1  G(3, False)
        refine JL.gskip rfl rfl ?_    -- s75 := neq t73 t74  G(3, False)
        refine JL.val ((Run.pickT rfl rfl).to (v' := .bool (decide (¬ xs.getLast? = some (i : Int)))) (by rw [hxs]; simp)) ?_    -- s76 := pick t67 c:bool(true) t75
        refine JL.nil fun a ha => ⟨(), ha.sub ⟨rfl, rfl, rfl, rfl, rfl, rfl, rfl, rfl, trivial⟩, rfl⟩
      · obtain ⟨rg, rc', hrs⟩ := ownsRow_some hrow (by omega)
        cases hrs
        obtain ⟨y, hy⟩ : ∃ y, xs[xs.length - 1]? = some y := ⟨xs[xs.length - 1], List.getElem?_eq_getElem (by omega)⟩
        have hyl : xs.getLast? = some y := by rw [List.getLast?_eq_getElem?]; exact hy
        have hyc : w3.cell? ⟨rg, xs.length - 1, none⟩ = some (.int .i64 y) := ownsRow_cell hrow (by simp [hy])
        refine JL.val ((Run.eql rfl rfl).to (bf (by omega))) ?_    -- s66 := eql t65 c:0:i64
        refine JL.val (Run.move rfl) ?_    -- s67 := move t66
        refine JL.gval rfl rfl (Run.move rfl) ?_    -- s68 := move t8  G(3, False)
        refine JL.gval rfl rfl (Run.move rfl) ?_    -- s69 := move t8  G(3, False)
        refine JL.gval rfl rfl (Run.len Yba.underlying60 rfl) ?_    -- s70 := builtin Builtin.len(t69) [60]  G(3, False)
        refine JL.gval rfl rfl (Run.sub (c := ((xs.length - 1 : Nat) : Int)) rfl rfl (by omega) (by omega) (by omega)) ?_    -- s71 := sub t70 c:1:i64  G(3, False)
        refine JL.gval rfl rfl (Run.index Yba.underlying60 c3 (by decide) rfl rfl (by omega)) ?_    -- s72 := index 60 t68 [t71]  G(3, False)
        refine JL.gval rfl rfl (Run.load t3 rfl (by simpa using hyc)) ?_    -- s73 := load 3 [t72]  G(3, False)
        refine JL.gval rfl rfl (Run.move rfl) ?_    -- s74 := move t1  G(3, False)
        refine JL.gval rfl rfl (Run.neq rfl rfl) ?_    -- s75 := neq t73 t74  G(3, False)
        refine JL.val ((Run.pickF rfl rfl).to (v' := .bool (decide (¬ xs.getLast? = some (i : Int)))) (by rw [hyl]; simp)) ?_    -- s76 := pick t67 c:bool(true) t75
        refine JL.nil fun a ha => ⟨(), ha.sub ⟨rfl, rfl, rfl, rfl, rfl, rfl, rfl, rfl, trivial⟩, rfl⟩
    · rintro _ _ rfl
      refine J.cond rfl (fun hc => ?_) (fun hc => ?_)    -- if t76
      · have hne : ¬ xs.getLast? = some (i : Int) := of_decide_eq_true hc
        -- region 9 draws: the world behind the draw, then behind the literal of one element
        have hokA : MkOk (w3.drew.drew.alloc (.cells [.int .i64 (i : Int)].toArray 3)) N ⟨m.b, .slice (some ⟨og, 0, none⟩) rows2.length oc2, rows2⟩ := hok.drew.drew.alloc _
        have hupdA : Upd w (w3.drew.drew.alloc (.cells [.int .i64 (i : Int)].toArray 3)) m.foot (Mk.foot ⟨m.b, .slice (some ⟨og, 0, none⟩) rows2.length oc2, rows2⟩) := hupd.drew.drew.alloc _
        have htbA : Blk (w3.drew.drew.alloc (.cells [.int .i64 (i : Int)].toArray 3)) tb 72 [.int .i64 (h : Int), .int .i64 0] := Blk.alloc (w := w3.drew.drew) htb _
        have hnew : Blk (w3.drew.drew.alloc (.cells [.int .i64 (i : Int)].toArray 3)) w3.drew.drew.heap.size 3 [.int .i64 (i : Int)] := Blk.new _ _ _
        have hszA : w3.heap.size + 1 = (w3.drew.drew.alloc (.cells [.int .i64 (i : Int)].toArray 3)).heap.size := by simp
        have hS : Blk w3.drew.drew m.b 59 (mkl (.slice (some ⟨og, 0, none⟩) rows2.length oc2)) ∧ Blk w3.drew.drew tb 72 [.int .i64 (h : Int), .int .i64 0] := ⟨hok.blk, htb⟩
        refine J.draw (fun x => Blk x m.b 59 (mkl (.slice (some ⟨og, 0, none⟩) rows2.length oc2)) ∧ Blk x tb 72 [.int .i64 (h : Int), .int .i64 0]) 11 [(0, true), (1, true), (2, true), (3, true), (4, true), (5, true), (6, true), (7, true), (8, false), (9, false), (10, true), (11, false)] (by kernel_rfl) (by kernel_rfl) ?_
        refine JS.take (i := 0) rfl hS (fun w' hw' => Run.move rfl) ?_    -- s77 := move t5
        refine JS.take (i := 1) rfl hS (fun w' hw' => Run.nil rfl) ?_    -- s78 := nilCheck t77
        refine JS.take (i := 2) rfl hS (fun w' hw' => Run.field fl59_2 rfl) ?_    -- s79 := field 59 t78 .2
        refine JS.take (i := 3) rfl hS (fun w' hw' => Run.load t57 rfl (hw'.1.cell rfl)) ?_    -- s80 := load 57 [t79]
        refine JS.take (i := 4) rfl hS (fun w' hw' => Run.field fl72_0 rfl) ?_    -- s81 := field 72 t7 .0
        refine JS.take (i := 5) rfl hS (fun w' hw' => Run.load t3 rfl (hw'.2.cell rfl)) ?_    -- s82 := load 3 [t81]
        refine JS.take (i := 6) rfl hS (fun w' hw' => Run.move rfl) ?_    -- s83 := move t8
        refine JS.take (i := 7) rfl hS (fun w' hw' => Run.move rfl) ?_    -- s84 := move t1
        refine JS.loud (i := 8) rfl (Run.buildSlice rfl (buildSlice1 el60 rfl)) (fun _ => ⟨hokA.blk, htbA⟩) ?_    -- s85 := buildSlice 60 1 [(0,(Operand.tmp 84))]
        generalize w3.drew.drew.alloc (.cells [.int .i64 (i : Int)].toArray 3) = wA at *
        have hszw3 : w3.drew.drew.heap.size = w3.heap.size := rfl
        rw [hszw3] at hnew ⊢
        obtain ⟨b', cap', w5, hrun, hown5, hg, hb', hlt'⟩ := append_ex (w := wA) (T := 60) (ad := ⟨w3.heap.size, 0, none⟩) (m := 1) (c := 1) (news := [.int .i64 (i : Int)]) el60 (hokA.row _ (List.mem_of_getElem? hrh)) (by simp)
          (fun k u hk => by rw [addr_add, Nat.zero_add]; exact hnew.cell hk) (by simp [Value.oneCell']) (by omega) (by simp only; omega) (by omega) (Nat.le_trans hN hupdA.size)
        simp only at hrun hown5 hg hb'
        have hnr : ∀ b, some b = (Value.slice ra xs.length rc).ownBlock → Mk.foot ⟨m.b, .slice (some ⟨og, 0, none⟩) rows2.length oc2, rows2⟩ b := fun b hb => .inr (.inr ⟨_, List.mem_of_getElem? hrh, hb.symm⟩)
        have hmb5 : Blk w5 m.b 59 (mkl (.slice (some ⟨og, 0, none⟩) rows2.length oc2)) := hokA.blk.grown hg (fun e => hokA.rb _ (List.mem_of_getElem? hrh) e.symm)
        have htb5 : Blk w5 tb 72 [.int .i64 (h : Int), .int .i64 0] := htbA.grown hg (fun e => hntb (hnr _ e))
        refine JS.loud (i := 9) rfl (Run.append rfl rfl hrun) (fun _ => ⟨hmb5, htb5⟩) ?_    -- s86 := builtin Builtin.append(t83, t85) [60,60]
        refine JS.take (i := 10) rfl ⟨hmb5, htb5⟩ (fun w' hw' => Run.index Yba.underlying57 c60 (by decide) rfl rfl hhl) ?_    -- s87 := index 57 t80 [t82]
        obtain ⟨l, hl, hll, hok6⟩ := MkOk.push (x := (i : Int)) hokA hrh rfl hg (by simpa [ints] using hown5) (hb'.imp id (fun e => by omega))
        refine JS.eff (i := 11) rfl (Run.store c60 rfl rfl rfl hl (by simpa using hll)) (fun h => absurd rfl h) ?_    -- sNone := store 60 [t87] := t86
        refine JS.to (fun _ _ h => h) ?_
        rw [show 0 + h * 1 = h by omega]
        refine J.region ?_    -- region 10
        refine JL.val (Run.add (c := ((j + 1 : Nat) : Int)) rfl rfl (by omega) (by omega) (by omega)) ?_    -- s88 := add t27 c:1:i64
        refine JL.val (Run.move rfl) ?_    -- s27 := move t88
        refine JL.nil fun a ha => ⟨(j + 1, _), by simp only; omega, ha.sub ⟨rfl, rfl, rfl, rfl, rfl, trivial⟩, hok6, ?_, rfl, by simp only; omega, by simpa using hrl2, ?_, ?_⟩
        · refine ((hupdA.grown (A' := Mk.foot ⟨m.b, .slice (some ⟨og, 0, none⟩) rows2.length oc2, rows2.set h (.slice (some ⟨b', 0, none⟩) (xs.length + 1) cap', xs ++ [(i : Int)])⟩) hg (fun b hb => hnr b hb.symm) ?_).stl (.inl (.inr (.inl rfl))) _)
          rintro b (rfl | hb | ⟨r, hr, hb⟩)
          · exact .inl (.inl rfl)
          · exact .inl (.inr (.inl hb))
          · rcases List.mem_or_eq_of_mem_set hr with hr | rfl
            · exact .inl (.inr (.inr ⟨r, hr, hb⟩))
            · simp [Value.ownBlock] at hb
              subst hb
              rcases hb' with hb' | hb'
              · exact .inl (hnr _ hb'.symm)
              · exact .inr (by omega)
        · intro r hr
          rcases List.mem_or_eq_of_mem_set hr with hr | rfl
          · have := hL2 r hr; simp only; omega
          · simp; omega
        · rw [hls', hstep, if_neg hne]
          simp [Mk.lists, List.map_set]
      · have heq : xs.getLast? = some (i : Int) := by have := of_decide_eq_false hc; simpa using this
        refine J.skipTo (fun _ _ h => h) ?_
        refine J.region ?_    -- region 10
        refine JL.val (Run.add (c := ((j + 1 : Nat) : Int)) rfl rfl (by omega) (by omega) (by omega)) ?_    -- s88 := add t27 c:1:i64
        refine JL.val (Run.move rfl) ?_    -- s27 := move t88
        refine JL.nil fun a ha => ⟨(j + 1, ⟨m.b, .slice (some ⟨og, 0, none⟩) rows2.length oc2, rows2⟩), by simp only; omega, ha.sub ⟨rfl, rfl, rfl, rfl, rfl, trivial⟩, hok.drew, hupd.drew, rfl, by simp only; omega, hrl2, fun r hr => by have := hL2 r hr; simp only; omega, ?_⟩
        rw [hls', hstep, if_pos heq]
        rfl
end Go.Proofs.Ybulkpiy
