/-
  (*staging).reindex: every row is cut to nothing, then every follower's place is listed anew.
-/
import Derived.Test.YbulkpiyStage
namespace Go.Proofs.Ybulkpiy
open Go.Fw Go.RowKit
attribute [local simp] Go.Fw.stl_size Go.Fw.sto_size

def stepFo (fs : List Fo) (k : Nat) (rs : List (List Int)) (i : Nat) : List (List Int) :=
  match fs[i]? with
  | some f => if f.img % 3 = k then f.hosts.foldl (stepRow (i : Int)) rs else rs
  | none => rs
/-- Image k's rows when followers 0 .. t-1 are listed. -/
def upto (fs : List Fo) (k t : Nat) (rs : List (List Int)) : List (List Int) := (List.range t).foldl (stepFo fs k) rs

theorem upto_succ (fs : List Fo) (k t : Nat) (rs : List (List Int)) : upto fs k (t + 1) rs = stepFo fs k (upto fs k t rs) t := by
  simp [upto, List.range_succ]

def unseen (l : List Nat) : Nat := (if 0 ∈ l then 0 else 1) + (if 1 ∈ l then 0 else 1) + (if 2 ∈ l then 0 else 1)
theorem unseen_lt (l : List Nat) (k : Nat) (hk : k < 3) (hn : k ∉ l) : unseen (l ++ [k]) < unseen l := by
  rcases (by omega : k = 0 ∨ k = 1 ∨ k = 2) with rfl | rfl | rfl <;> simp [unseen, hn] <;> (repeat' split) <;> omega

theorem total_take_le (fs : List Fo) (t : Nat) : total (fs.take t) ≤ total fs := by
  have h : total fs = total (fs.take t) + total (fs.drop t) := by
    conv => lhs; rw [← List.take_append_drop t fs]
    unfold total
    rw [List.map_append, List.sum_append]
  omega

theorem lists_length (m : Mk) : m.lists.length = m.rows.length := by simp [Mk.lists]

set_option maxRecDepth 100000
theorem reindex_calls (w : World) (N sb bm msb : Nat) (bs rp sl : Nat → Nat) (fs : List Fo) (fv rv : Value) (ms : Nat → Mk) (hms : MksOk w N ms) (hN : N ≤ w.heap.size)
    (hbs : ∀ k, k < 3 → (ms k).b = bs k) (him : Imm w (foots ms) sb bm msb bs rp sl fs fv rv) (hrl : ∀ k, k < 3 → (ms k).rows.length ≤ 1000) (hfl : fs.length ≤ 1024) (htot : total fs ≤ 4096)
    (R : Ending → World → Prop) (hR : ∀ w' ms', MksOk w' N ms' → Upd w w' (foots ms) (foots ms') → (∀ k, k < 3 → (ms' k).b = bs k) → (∀ k, k < 3 → (ms' k).rows.length ≤ 1000) →
      (∀ k, k < 3 → (ms' k).lists = upto fs k fs.length (List.replicate (ms k).rows.length [])) → R (.returned (.tuple #[])) w') :
    Calls Yba.prog 7 #[.pointer (some ⟨sb, 0, none⟩)] w R := by
  refine calls (args := [_]) (m := 1) Yba.func7 rfl rfl rfl (by decide) ?_
  refine J.mid (ι := Nat → Mk) (fun _ => [(0, .pointer (some ⟨sb, 0, none⟩))])
    (fun ms1 w1 => MksOk w1 N ms1 ∧ Upd w w1 (foots ms) (foots ms1) ∧ (∀ k, k < 3 → (ms1 k).b = bs k) ∧ (∀ k, k < 3 → (ms1 k).lists = List.replicate (ms k).rows.length [])) ?_ ?_
  · refine J.seq ?_
    refine J.region ?_    -- region 0
    refine JL.val (Run.move rfl) ?_    -- s6 := move t0
    refine JL.val (Run.nil rfl) ?_    -- s7 := nilCheck t6
    refine JL.val (Run.field fl53_9 rfl) ?_    -- s8 := field 53 t7 .9
    refine JL.val (Run.load t34 rfl him.cm) ?_    -- s9 := load 34 [t8]
    refine JL.val (Run.range Yba.underlying34 rfl him.map) ?_    -- s10 := range 34 t9
    refine JL.to (fun _ _ h => h) ?_
    refine J.block ?_    -- block 0
    refine J.loop (ι := List Nat × (Nat → Mk)) (fun _ => [(0, .pointer (some ⟨sb, 0, none⟩)), (10, .pointer (some ⟨w.heap.size, 0, none⟩))])
      (fun x w' => MksOk w' N x.2 ∧ Upd w w' (foots ms) (foots x.2) ∧ (∀ k, k < 3 → (x.2 k).b = bs k) ∧ w'.heap[w.heap.size]? = some (.mapIter (some bm) 3 x.1.toArray 3) ∧ ¬ foots x.2 w.heap.size ∧
        (∀ k, k < 3 → (x.2 k).lists = if k ∈ x.1 then List.replicate (ms k).rows.length [] else (ms k).lists)) (fun x => unseen x.1) ([], ms) ⟨rfl, rfl, trivial⟩
      ⟨hms.keep fun b hb => Below.heap_alloc w _ b (hms.lt hb).2, (Upd.refl w _).alloc _, hbs, heap_alloc_new w _, fun hf => by have := (hms.lt hf).2; omega, fun k hk => by simp⟩ ?_
    rintro ⟨seen, ms1⟩ w1 ⟨hok, hupd, hb1, hit, hnf, hls⟩
    simp only at hok hupd hb1 hit hnf hls
    have him1 := him.upd hupd
    refine J.seq ?_
    refine J.region ?_    -- region 1
    have hborn : ∀ x ∈ #[entryOf bs 0, entryOf bs 1, entryOf bs 2], x.born < 3 := by simp [entryOf]
    rcases next_ex (P := Yba.prog) hit him1.map hborn ⟨entryOf bs 0, by simp, by simp [entryOf]⟩ with ⟨x, w2, hx, hxs, hw2, hrun⟩ | ⟨hall, hrun⟩
    rotate_left
    · refine JL.val (Run.next rfl hrun) ?_    -- s11 := next t10 false
      refine JL.val (Run.extract rfl rfl) ?_    -- s12 := extract t11 0
      refine JL.to (fun _ _ h => h) ?_
      refine J.seq ?_
      refine J.condF rfl rfl ?_
      refine J.exit fun a ha => ⟨ms1, ha.sub ⟨rfl, trivial⟩, hok, hupd, hb1, fun k hk => ?_⟩
      rw [hls k hk, if_pos]
      rcases (by omega : k = 0 ∨ k = 1 ∨ k = 2) with rfl | rfl | rfl
      · simpa [entryOf] using hall (entryOf bs 0) (by simp)
      · simpa [entryOf] using hall (entryOf bs 1) (by simp)
      · simpa [entryOf] using hall (entryOf bs 2) (by simp)
    obtain ⟨k, hk3, rfl⟩ : ∃ k, k < 3 ∧ x = entryOf bs k := by
      simp at hx
      rcases hx with rfl | rfl | rfl
      · exact ⟨0, by omega, rfl⟩
      · exact ⟨1, by omega, rfl⟩
      · exact ⟨2, by omega, rfl⟩
    have hks : k ∉ seen := by simpa [entryOf] using hxs
    have hit2 : w2.heap[w.heap.size]? = some (.mapIter (some bm) 3 seen.toArray 3) := by rcases hw2 with rfl | rfl <;> exact hit
    have hok2 : MksOk w2 N ms1 := by rcases hw2 with rfl | rfl; exact hok; exact hok.keep fun _ _ => rfl
    have hupd2 : Upd w w2 (foots ms) (foots ms1) := by rcases hw2 with rfl | rfl; exact hupd; exact hupd.drew
    refine JL.val (Run.next rfl hrun) ?_    -- s11 := next t10 false
    have hsz2 : w.heap.size < w2.heap.size := (Array.getElem?_eq_some_iff.1 hit2).1
    have hok3 : MksOk (sto w2 w.heap.size (.mapIter (some bm) 3 (seen.toArray.push (entryOf bs k).born) 3)) N ms1 := hok2.keep fun b hb => sto_other (fun e => hnf (e ▸ hb))
    have hupd3 : Upd w (sto w2 w.heap.size (.mapIter (some bm) 3 (seen.toArray.push (entryOf bs k).born) 3)) (foots ms) (foots ms1) := hupd2.sto (.inr (Nat.le_refl _))
    have hit3 : (sto w2 w.heap.size (.mapIter (some bm) 3 (seen.toArray.push (entryOf bs k).born) 3)).heap[w.heap.size]? = some (.mapIter (some bm) 3 (seen.toArray.push (entryOf bs k).born) 3) := sto_same hsz2
    clear hit hok hupd him1 hit2 hok2 hupd2 hrun
    generalize sto w2 w.heap.size (.mapIter (some bm) 3 (seen.toArray.push (entryOf bs k).born) 3) = w3 at *
    have him3 := him.upd hupd3
    refine JL.val (Run.extract rfl rfl) ?_    -- s12 := extract t11 0
    refine JL.to (fun _ _ h => h) ?_
    refine J.seq ?_
    refine J.condT rfl rfl ?_
    refine J.skipTo (fun _ _ h => h) ?_
    refine J.block ?_    -- block 1
    refine J.seq ?_
    refine J.region ?_    -- region 2
    have hfind : #[entryOf bs 0, entryOf bs 1, entryOf bs 2].find? (·.born == (entryOf bs k).born) = some (entryOf bs k) := by
      rcases (by omega : k = 0 ∨ k = 1 ∨ k = 2) with rfl | rfl | rfl <;> rfl
    refine JL.val (Run.entry (en := entryOf bs k) rfl hit3 him3.map hfind) ?_    -- s13 := entry t10
    refine JL.val (Run.extract rfl rfl) ?_    -- s14 := extract t13 1
    refine JL.val (Run.assign rfl) ?_    -- s3 := assign t14
    refine JL.to (fun _ _ h => h) ?_
    have hm0 := hok3.ok k hk3
    have hm0b := hb1 k hk3
    have hm0l := hls k hk3
    rw [if_neg hks] at hm0l
    have hnfk : ¬ (ms1 k).foot w.heap.size := fun hf => hnf ⟨k, hk3, hf⟩
    generalize hmk : ms1 k = m0 at *
    obtain ⟨mb, ov, rows⟩ := m0
    simp only at hm0b
    subst hm0b
    obtain ⟨oa, oc, hov⟩ := ovSlice hm0.outer
    simp only at hov
    subst hov
    refine J.seq ?_
    refine J.region ?_    -- region 3
    refine JL.val (Run.move rfl) ?_    -- s15 := move t3
    refine JL.val (Run.nil rfl) ?_    -- s16 := nilCheck t15
    refine JL.val (Run.field fl59_2 rfl) ?_    -- s17 := field 59 t16 .2
    refine JL.val (Run.load t57 rfl (hm0.blk.cell rfl)) ?_    -- s18 := load 57 [t17]
    refine JL.val (Run.len Yba.underlying57 rfl) ?_    -- s19 := builtin Builtin.len(t18) [57]
    refine JL.val (Run.move rfl) ?_    -- s20 := move c:0:i64
    refine JL.to (fun _ _ h => h) ?_
    refine J.block ?_    -- block 2
    have hlen0 : rows.length = (ms k).rows.length := by rw [← lists_length (ms k), ← hm0l]; simp [Mk.lists]
    have hrl0 := hrl k hk3
    refine J.loop (ι := Nat × List (Value × List Int)) (fun x => [(0, .pointer (some ⟨sb, 0, none⟩)), (3, .pointer (some ⟨bs k, 0, none⟩)), (10, .pointer (some ⟨w.heap.size, 0, none⟩)), (19, .int .i64 (rows.length : Int)), (20, .int .i64 (x.1 : Int))])
      (fun x w' => MkOk w' N ⟨bs k, .slice oa rows.length oc, x.2⟩ ∧ Upd w3 w' (Mk.foot ⟨bs k, .slice oa rows.length oc, rows⟩) (Mk.foot ⟨bs k, .slice oa rows.length oc, x.2⟩) ∧ x.2.length = rows.length ∧ x.1 ≤ rows.length ∧
        (∀ b, Mk.foot ⟨bs k, .slice oa rows.length oc, x.2⟩ b → Mk.foot ⟨bs k, .slice oa rows.length oc, rows⟩ b) ∧ x.2.map (·.2) = List.replicate x.1 [] ++ (rows.map (·.2)).drop x.1)
      (fun x => rows.length - x.1) (0, rows) ⟨rfl, rfl, rfl, rfl, rfl, trivial⟩ ⟨hm0, Upd.refl _ _, rfl, by simp, fun _ h => h, by simp⟩ ?_
    rintro ⟨h, rows1⟩ w4 ⟨hok4, hupd4, hlen4, hh, hfoot4, hls4⟩
    simp only at hok4 hupd4 hlen4 hh hfoot4 hls4
    refine J.seq ?_
    refine J.region ?_    -- region 4
    refine JL.val (Run.lss rfl rfl) ?_    -- s21 := lss t20 t19
    refine JL.to (fun _ _ h => h) ?_
    refine J.seq ?_
    refine J.cond rfl (fun hc => ?_) (fun hc => ?_)    -- if t21
    rotate_left
    · have hhl : h = rows.length := by have := of_decide_eq_false hc; omega
      subst hhl
      obtain ⟨hokF, hupdF⟩ := hok3.upd hk3 hok4 (by rw [hmk]; exact hupd4)
      refine J.exit fun a ha => ⟨(seen ++ [k], updM ms1 k ⟨bs k, .slice oa rows.length oc, rows1⟩), unseen_lt _ _ hk3 hks, ha.sub ⟨rfl, rfl, trivial⟩, hokF, hupd3.trans hupdF, ?_, ?_, ?_, ?_⟩
      · intro j hj
        simp only [updM]
        split
        · rename_i e; rw [e]
        · exact hb1 j hj
      · rw [hupd4.keep w.heap.size (Array.getElem?_eq_some_iff.1 hit3).1 hnfk, hit3]
        simp [entryOf]
      · rintro ⟨j, hj, hf⟩
        simp only [updM] at hf
        split at hf
        · exact hnfk (hfoot4 _ hf)
        · exact hnf ⟨j, hj, hf⟩
      · intro j hj
        simp only [updM]
        split
        · rename_i e
          subst e
          simp [Mk.lists, hls4, hlen0]
        · rename_i e
          rw [hls j hj]
          simp [e]
    have hhl : h < rows.length := by have := of_decide_eq_true hc; omega
    obtain ⟨og, oc', hov⟩ := ownsRow_some hok4.outer (by simp only; omega)
    simp only [Value.slice.injEq] at hov
    obtain ⟨rfl, _, rfl⟩ := hov
    obtain ⟨⟨rv1, xs⟩, hrh⟩ : ∃ r, rows1[h]? = some r := ⟨rows1[h]'(by omega), List.getElem?_eq_getElem (by omega)⟩
    have hrow := hok4.row _ (List.mem_of_getElem? hrh)
    simp only at hrow
    obtain ⟨ra, rc, hrv⟩ := ovSlice hrow
    subst hrv
    have hcell : w4.cell? ⟨og, h, none⟩ = some (.slice ra xs.length rc) := by
      have ho := hok4.outer
      simp only [hlen4] at ho
      exact ownsRow_cell ho (by simp [Mk.vals, hrh])
    have hrc : 0 ≤ rc := by omega
    refine J.skipTo (fun _ _ h => h) ?_
    refine J.seq ?_
    refine J.block ?_    -- block 3
    refine J.seq ?_
    refine J.region ?_    -- region 5
    refine JL.val (Run.move rfl) ?_    -- s22 := move t20
    refine JL.val (Run.assign rfl) ?_    -- s4 := assign t22
    refine JL.to (fun _ _ h => h) ?_
    -- region 6 draws
    have hS : Blk w4.drew (bs k) 59 (mkl (.slice (some ⟨og, 0, none⟩) rows.length oc)) ∧ w4.drew.cell? ⟨og, h, none⟩ = some (.slice ra xs.length rc) := ⟨hok4.blk, hcell⟩
    refine J.draw (fun x => Blk x (bs k) 59 (mkl (.slice (some ⟨og, 0, none⟩) rows.length oc)) ∧ x.cell? ⟨og, h, none⟩ = some (.slice ra xs.length rc)) 14 [(0, true), (1, true), (2, true), (3, true), (4, true), (5, true), (6, true), (7, true), (8, true), (9, true), (10, true), (11, true), (12, true), (13, true), (14, false)] (by kernel_rfl) (by kernel_rfl) ?_
    refine JS.take (i := 0) rfl hS (fun w' hw' => Run.move rfl) ?_    -- s23 := move t3
    refine JS.take (i := 1) rfl hS (fun w' hw' => Run.nil rfl) ?_    -- s24 := nilCheck t23
    refine JS.take (i := 2) rfl hS (fun w' hw' => Run.field fl59_2 rfl) ?_    -- s25 := field 59 t24 .2
    refine JS.take (i := 3) rfl hS (fun w' hw' => Run.load t57 rfl (hw'.1.cell rfl)) ?_    -- s26 := load 57 [t25]
    refine JS.take (i := 4) rfl hS (fun w' hw' => Run.move rfl) ?_    -- s27 := move t4
    refine JS.take (i := 5) rfl hS (fun w' hw' => Run.move rfl) ?_    -- s28 := move t3
    refine JS.take (i := 6) rfl hS (fun w' hw' => Run.nil rfl) ?_    -- s29 := nilCheck t28
    refine JS.take (i := 7) rfl hS (fun w' hw' => Run.field fl59_2 rfl) ?_    -- s30 := field 59 t29 .2
    refine JS.take (i := 8) rfl hS (fun w' hw' => Run.load t57 rfl (hw'.1.cell rfl)) ?_    -- s31 := load 57 [t30]
    refine JS.take (i := 9) rfl hS (fun w' hw' => Run.move rfl) ?_    -- s32 := move t4
    refine JS.take (i := 10) rfl hS (fun w' hw' => Run.index Yba.underlying57 c60 (by decide) rfl rfl hhl) ?_    -- s33 := index 57 t31 [t32]
    refine JS.take (i := 11) rfl hS (fun w' hw' => Run.load t60 rfl (by simpa using hw'.2)) ?_    -- s34 := load 60 [t33]
    refine JS.take (i := 12) rfl hS (fun w' hw' => Run.sliceHi (h := 0) Yba.underlying60 c3 (by decide) rfl rfl hrc) ?_    -- s35 := slice 60 t34 none (some (Operand.const (Value.int IntKind.i64 0))) none
    refine JS.take (i := 13) rfl hS (fun w' hw' => Run.index Yba.underlying57 c60 (by decide) rfl rfl hhl) ?_    -- s36 := index 57 t26 [t27]
    obtain ⟨l, hl, hll, hok5⟩ := MkOk.cut hok4.drew hrh rfl
    refine JS.eff (i := 14) rfl (Run.store c60 rfl rfl rfl hl (by simpa using hll)) (fun h => absurd rfl h) ?_    -- sNone := store 60 [t36] := t35
    refine JS.to (fun _ _ h => h) ?_
    rw [show 0 + h * 1 = h by omega]
    refine J.region ?_    -- region 7
    refine JL.val (Run.add (c := ((h + 1 : Nat) : Int)) rfl rfl (by omega) (by omega) (by omega)) ?_    -- s37 := add t20 c:1:i64
    refine JL.val (Run.move rfl) ?_    -- s20 := move t37
    have hfoot5 : ∀ b, Mk.foot ⟨bs k, .slice (some ⟨og, 0, none⟩) rows.length oc, rows1.set h (.slice ra 0 rc, [])⟩ b → Mk.foot ⟨bs k, .slice (some ⟨og, 0, none⟩) rows.length oc, rows1⟩ b := by
      rintro b (hb | hb | ⟨r, hr, hb⟩)
      · exact .inl hb
      · exact .inr (.inl hb)
      · rcases List.mem_or_eq_of_mem_set hr with hr | rfl
        · exact .inr (.inr ⟨r, hr, hb⟩)
        · exact .inr (.inr ⟨_, List.mem_of_getElem? hrh, by cases ra <;> exact hb⟩)
    refine JL.nil fun a ha => ⟨(h + 1, rows1.set h (.slice ra 0 rc, [])), by simp only; omega, ha.sub ⟨rfl, rfl, rfl, rfl, rfl, trivial⟩, hok5, ?_, by simpa using hlen4, by simp only; omega, fun b hb => hfoot4 b (hfoot5 b hb), ?_⟩
    · exact (hupd4.drew.stl (b := og) (.inl (.inr (.inl rfl))) _).mono hfoot5
    · rw [List.map_set, hls4]
      apply List.ext_getElem?
      intro q
      by_cases hq : q = h
      · subst hq
        rw [List.getElem?_set_self (by simp; omega)]
        rw [List.getElem?_append_left (by simp)]
        simp
      · rw [List.getElem?_set_ne (Ne.symm hq)]
        by_cases hq2 : q < h
        · rw [List.getElem?_append_left (by simpa using hq2), List.getElem?_append_left (by simp; omega)]
          simp [List.getElem?_replicate, hq2]
          omega
        · rw [List.getElem?_append_right (by simp; omega), List.getElem?_append_right (by simp; omega)]
          simp only [List.length_replicate, List.getElem?_drop]
          congr 1
          omega
  · rintro ms1 w1 ⟨hok1, hupd1, hb1, hl1⟩
    have him1 := him.upd hupd1
    refine J.seq ?_
    refine J.region ?_    -- region 8
    obtain ⟨fa, fc, hfv⟩ := him.fl
    refine JL.val (Run.move rfl) ?_    -- s38 := move t0
    refine JL.val (Run.nil rfl) ?_    -- s39 := nilCheck t38
    refine JL.val (Run.field fl53_4 rfl) ?_    -- s40 := field 53 t39 .4
    refine JL.val (Run.load t41 rfl (hfv ▸ him1.cf)) ?_    -- s41 := load 41 [t40]
    refine JL.val (Run.len Yba.underlying41 rfl) ?_    -- s42 := builtin Builtin.len(t41) [41]
    refine JL.val (Run.move rfl) ?_    -- s43 := move c:0:i64
    refine JL.to (fun _ _ h => h) ?_
    refine J.block ?_    -- block 4
    refine J.loop (ι := Nat × (Nat → Mk)) (fun x => [(0, .pointer (some ⟨sb, 0, none⟩)), (42, .int .i64 (fs.length : Int)), (43, .int .i64 (x.1 : Int))])
      (fun x w' => MksOk w' N x.2 ∧ Upd w w' (foots ms) (foots x.2) ∧ (∀ k, k < 3 → (x.2 k).b = bs k) ∧ x.1 ≤ fs.length ∧ (∀ k, k < 3 → (x.2 k).rows.length ≤ 1000) ∧ (∀ k, k < 3 → ∀ r ∈ (x.2 k).rows, r.2.length ≤ total (fs.take x.1)) ∧
        (∀ k, k < 3 → (x.2 k).lists = upto fs k x.1 (List.replicate (ms k).rows.length []))) (fun x => fs.length - x.1) (0, ms1) ⟨rfl, rfl, rfl, trivial⟩
      ⟨hok1, hupd1, hb1, by simp, fun k hk => ?_, fun k hk r hr => ?_, fun k hk => by rw [hl1 k hk]; rfl⟩ ?_
    · have := lists_length (ms1 k)
      rw [hl1 k hk] at this
      have h2 := hrl k hk
      simp at this
      show (ms1 k).rows.length ≤ 1000
      omega
    · have : r.2 ∈ (ms1 k).lists := List.mem_map_of_mem hr
      rw [hl1 k hk] at this
      rw [List.eq_of_mem_replicate this]
      simp
    clear hok1 hupd1 hb1 hl1 him1
    rintro ⟨t, ms2⟩ w2 ⟨hok, hupd, hb2, ht, hrl2, hL2, hl2⟩
    simp only at hok hupd hb2 ht hrl2 hL2 hl2
    have him2 := him.upd hupd
    refine J.seq ?_
    refine J.region ?_    -- region 9
    refine JL.val (Run.lss rfl rfl) ?_    -- s44 := lss t43 t42
    refine JL.to (fun _ _ h => h) ?_
    refine J.seq ?_
    refine J.cond rfl (fun hc => ?_) (fun hc => ?_)    -- if t44
    rotate_left
    · have htl : t = fs.length := by have := of_decide_eq_false hc; omega
      subst htl
      refine J.exit fun a ha => ?_
      exact fall0 Yba.f7 R rfl (hR _ _ hok hupd hb2 hrl2 hl2) a ha
    have htl : t < fs.length := by have := of_decide_eq_true hc; omega
    obtain ⟨f, hf⟩ : ∃ f, fs[t]? = some f := ⟨fs[t], List.getElem?_eq_getElem htl⟩
    refine J.skipTo (fun _ _ h => h) ?_
    refine J.seq ?_
    refine J.block ?_    -- block 5
    refine J.seq ?_
    refine J.region ?_    -- region 10
    refine JL.val (Run.move rfl) ?_    -- s45 := move t43
    refine JL.val (Run.assign rfl) ?_    -- s5 := assign t45
    refine JL.to (fun _ _ h => h) ?_
    refine J.region ?_    -- region 11
    refine JL.val (Run.move rfl) ?_    -- s46 := move t0
    refine JL.val (Run.move rfl) ?_    -- s47 := move t5
    have hk3 : f.img % 3 < 3 := Nat.mod_lt _ (by omega)
    obtain ⟨fb, c, hzf, hfv2, hc1, hc2⟩ := him2.fol t f hf
    obtain ⟨hzr, hzs, hsz, hc3, hsl⟩ := him2.slots t f hf
    have hhl : f.hosts.length = f.hs.length := by simp [Fo.hosts]
    have htt : total (fs.take t) + f.hs.length ≤ total fs := by
      rw [← total_snoc fs t f hf]
      exact total_take_le fs (t + 1)
    refine JL.call rfl Yba.func9 rfl rfl ?_    -- s48 := CALL f9(t46, t47) [25,3]
    refine index_calls w2 N sb t (sl t) (total (fs.take t)) f.hosts (ms2 (f.img % 3)) (hok.ok _ hk3) (Nat.le_trans hN hupd.size)
      ⟨⟨fb, fs.length, c, rp t, hfv2 ▸ him2.cf, htl, by rw [hb2 _ hk3]; exact hc1, hc2, hc3⟩, hsl⟩ (fun hz => hzs ⟨_, hk3, hz⟩) f.hosts_lt (by omega) (hrl2 _ hk3) (hL2 _ hk3) (by omega) _ ?_
    intro w3 m3 hok3 hupd3 hb3 hrl3 hL3 hl3
    refine ⟨_, rfl, ?_⟩
    obtain ⟨hokF, hupdF⟩ := hok.upd hk3 hok3 hupd3
    refine JL.to (fun _ _ h => h) ?_
    refine J.region ?_    -- region 12
    refine JL.val (Run.add (c := ((t + 1 : Nat) : Int)) rfl rfl (by omega) (by omega) (by omega)) ?_    -- s49 := add t43 c:1:i64
    refine JL.val (Run.move rfl) ?_    -- s43 := move t49
    refine JL.nil fun a ha => ⟨(t + 1, updM ms2 (f.img % 3) m3), by simp only; omega, ha.sub ⟨rfl, rfl, rfl, trivial⟩, hokF, hupd.trans hupdF, ?_, by simp only; omega, ?_, ?_, ?_⟩
    · intro k hk
      simp only [updM]
      split
      · rename_i e; rw [e, hb3, hb2 _ hk3]
      · exact hb2 k hk
    · intro k hk
      simp only [updM]
      split
      · exact hrl3
      · exact hrl2 k hk
    · intro k hk r hr
      have hsn := total_snoc fs t f hf
      simp only [updM] at hr ⊢
      split at hr
      · have := hL3 r hr; omega
      · have := hL2 k hk r hr; omega
    · intro k hk
      rw [upto_succ]
      simp only [updM, stepFo, hf]
      split
      · rename_i e
        subst e
        rw [if_pos rfl, hl3, hl2 _ hk3]
      · rename_i e
        rw [if_neg (Ne.symm e), hl2 k hk]
end Go.Proofs.Ybulkpiy
