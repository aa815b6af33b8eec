/-
  newGraph and link.
-/
import Derived.Test.YbulkpkaGr
namespace Go.Proofs.Ybulkpka
open Go.Fw Go.RowKit
attribute [local simp] Go.Fw.stl_size

set_option maxRecDepth 100000

theorem build36 {w : World} {a : Option Addr} {l c : Nat} : (Instr.build 36 #[(0, .slice a l c)]).run Yba.prog w = .ok (.agg #[.slice a l c, .int .i64 0]) w := by
  kernel_rfl

theorem new_calls (w : World) (N n : Nat) (hN : N ≤ w.heap.size) (hn : n ≤ 1000)
    (R : Ending → World → Prop) (hR : ∀ w' m, GrOk w' N m → Upd w w' (fun _ => False) m.foot → m.rows = List.replicate n (.slice none 0 0, []) → R (.returned (.pointer (some ⟨m.b, 0, none⟩))) w') :
    Calls Yba.prog 8 #[.int .i64 (n : Int)] w R := by
  refine calls (args := [_]) (m := 1) Yba.func8 rfl rfl rfl (by decide) ?_
  refine J.seq ?_
  refine J.region ?_    -- region 0
  refine JL.val (Run.assign rfl) ?_    -- s2 := assign c:pointer(none)
  refine JL.to (fun _ _ h => h) ?_
  refine J.seq ?_
  refine J.region ?_    -- region 1
  refine JL.val (Run.move rfl) ?_    -- s3 := move t0
  refine JL.val (Run.make (l := n) (c := n) el34 z29 (zs := [.slice none 0 0]) rfl rfl rfl (by omega) (by omega) (by omega)) ?_    -- s4 := makeSlice 34 t3 t3
  rw [rep_one]
  refine JL.val (Run.build rfl build36) ?_    -- s5 := build 36 [(0,(Operand.tmp 4))]
  refine JL.val (Run.box rfl rfl) ?_    -- s6 := box 36 t5
  refine JL.val (Run.assign rfl) ?_    -- s2 := assign t6
  refine JL.to (fun _ _ h => h) ?_
  refine J.ret1 Yba.f8 R (fun _ _ h => h) rfl rfl ?_
  have hnew := Blk.new w 29 (List.replicate n (.slice none 0 0))
  have hA : Blk ((w.alloc (.cells (List.replicate n (.slice none 0 0 : Value)).toArray 29)).alloc (.cells [.slice (some ⟨w.heap.size, 0, none⟩) n n, .int .i64 0].toArray 36)) w.heap.size 29 (List.replicate n (.slice none 0 0)) := hnew.alloc _
  have hG : Blk ((w.alloc (.cells (List.replicate n (.slice none 0 0 : Value)).toArray 29)).alloc (.cells [.slice (some ⟨w.heap.size, 0, none⟩) n n, .int .i64 0].toArray 36)) (w.heap.size + 1) 36 [.slice (some ⟨w.heap.size, 0, none⟩) n n, .int .i64 0] := by
    have := Blk.new (w.alloc (.cells (List.replicate n (.slice none 0 0 : Value)).toArray 29)) 36 [.slice (some ⟨w.heap.size, 0, none⟩) n n, .int .i64 0]
    simpa using this
  have hsz : (w.alloc (.cells (List.replicate n (.slice none 0 0 : Value)).toArray 29)).heap.size = w.heap.size + 1 := by simp
  have hmem : ∀ r ∈ List.replicate n ((.slice none 0 0 : Value), ([] : List Int)), r = (.slice none 0 0, []) := fun r hr => List.eq_of_mem_replicate hr
  rw [hsz]
  refine hR _ ⟨w.heap.size + 1, 0, .slice (some ⟨w.heap.size, 0, none⟩) n n, List.replicate n (.slice none 0 0, [])⟩ ⟨by simp only; omega, hG, ?_, ?_, ?_, ?_, ?_, ?_⟩ ?_ rfl
  · have h1 : (List.replicate n ((.slice none 0 0 : Value), ([] : List Int))).length = n := by simp
    have h2 : Gr.vals ⟨w.heap.size + 1, 0, .slice (some ⟨w.heap.size, 0, none⟩) n n, List.replicate n (.slice none 0 0, [])⟩ = List.replicate n (.slice none 0 0) := by simp [Gr.vals]
    show World.ownsRow _ N 29 1 _ (List.replicate n ((.slice none 0 0 : Value), ([] : List Int))).length _
    rw [h1, h2]
    exact ownsRow_of_blk hA hN (by simp) (by show n ≤ 9223372036854775807; omega)
  · intro r hr
    rw [hmem r hr]
    exact World.ownsRow_nil _ _ _ _
  · simp [Value.ownBlock]
  · intro r hr
    rw [hmem r hr]
    simp [Value.ownBlock]
  · intro r hr b hb
    rw [hmem r hr] at hb
    simp [Value.ownBlock] at hb
  · intro i j r s b hi hj hb
    rw [hmem r (List.mem_of_getElem? hi)] at hb
    simp [Value.ownBlock] at hb
  · have h := ((Upd.refl w fun _ => False).alloc (.cells (List.replicate n (.slice none 0 0 : Value)).toArray 29)).alloc (.cells [.slice (some ⟨w.heap.size, 0, none⟩) n n, .int .i64 0].toArray 36)
    refine ⟨h.os, h.tape, h.output, h.size, h.keep, ?_⟩
    · rintro b (rfl | hb | ⟨r, hr, hb⟩)
      · exact .inr (by simp only; omega)
      · simp [Value.ownBlock] at hb
        exact .inr (by omega)
      · rw [hmem r hr] at hb
        simp [Value.ownBlock] at hb

theorem link_calls (w : World) (N i j : Nat) (m : Gr) (hm : GrOk w N m) (hN : N ≤ w.heap.size) (hi : i < m.rows.length) (hj : j < m.rows.length) (hL : ∀ r ∈ m.rows, r.2.length ≤ 1000000)
    (R : Ending → World → Prop) (hR : ∀ w' m', GrOk w' N m' → Upd w w' m.foot m'.foot → m'.b = m.b → m'.lists = pushL j i (pushL i j m.lists) → R (.returned (.tuple #[])) w') :
    Calls Yba.prog 9 #[.pointer (some ⟨m.b, 0, none⟩), .int .i64 (i : Int), .int .i64 (j : Int)] w R := by
  refine calls (args := [_, _, _]) (m := 3) Yba.func9 rfl rfl rfl (by decide) ?_
  refine J.seq ?_
  -- region 0 draws
  obtain ⟨og1, oc1, hov1⟩ := ownsRow_some hm.outer (by omega)
  obtain ⟨⟨rv1, xs1⟩, hr1⟩ : ∃ r, m.rows[i]? = some r := ⟨m.rows[i], List.getElem?_eq_getElem (by omega)⟩
  have hrow1 := hm.row _ (List.mem_of_getElem? hr1)
  simp only at hrow1
  have hcell1 : w.cell? ⟨og1, i, none⟩ = some rv1 := by
    have h := hm.outer
    rw [hov1] at h
    exact ownsRow_cell h (by simp [Gr.vals, hr1])
  have hxl1 : xs1.length ≤ 1000000 := hL _ (List.mem_of_getElem? hr1)
  have hblk1 : Blk w m.b 36 [.slice (some ⟨og1, 0, none⟩) m.rows.length oc1, .int .i64 m.e] := hov1 ▸ hm.blk
  have hne1 : rv1.ownBlock ≠ some m.b := hm.rb _ (List.mem_of_getElem? hr1)
  have hno1 : rv1.ownBlock ≠ some og1 := fun e => hm.ro _ (List.mem_of_getElem? hr1) og1 e (by rw [hov1]; rfl)
  have hokA1 : GrOk (w.drew.alloc (.cells [.int .i64 (j : Int)].toArray 3)) N m := hm.drew.alloc _
  have hupdA1 : Upd w (w.drew.alloc (.cells [.int .i64 (j : Int)].toArray 3)) m.foot m.foot := (Upd.refl w m.foot).drew.alloc _
  have hnew1 : Blk (w.drew.alloc (.cells [.int .i64 (j : Int)].toArray 3)) w.drew.heap.size 3 [.int .i64 (j : Int)] := Blk.new _ _ _
  have hszA1 : w.heap.size + 1 = (w.drew.alloc (.cells [.int .i64 (j : Int)].toArray 3)).heap.size := by simp
  have hS1 : (Blk w.drew m.b 36 [.slice (some ⟨og1, 0, none⟩) m.rows.length oc1, .int .i64 m.e] ∧ w.drew.cell? ⟨og1, i, none⟩ = some rv1) := ⟨hblk1, hcell1⟩
  have hSA1 : (Blk (w.drew.alloc (.cells [.int .i64 (j : Int)].toArray 3)) m.b 36 [.slice (some ⟨og1, 0, none⟩) m.rows.length oc1, .int .i64 m.e] ∧ (w.drew.alloc (.cells [.int .i64 (j : Int)].toArray 3)).cell? ⟨og1, i, none⟩ = some rv1) := by
    refine ⟨hblk1.alloc (w := w.drew) _, ?_⟩
    have h := hokA1.outer
    rw [hov1] at h
    exact ownsRow_cell h (by simp [Gr.vals, hr1])
  refine J.draw (fun x => Blk x m.b 36 [.slice (some ⟨og1, 0, none⟩) m.rows.length oc1, .int .i64 m.e] ∧ x.cell? ⟨og1, i, none⟩ = some rv1) 16 [(0, true), (1, true), (2, true), (3, true), (4, true), (5, true), (6, true), (7, true), (8, true), (9, true), (10, true), (11, true), (12, true), (13, false), (14, false), (15, true), (16, false)] (by kernel_rfl) (by kernel_rfl) ?_
  refine JS.take (i := 0) rfl hS1 (fun w' hw' => Run.move rfl) ?_
  refine JS.take (i := 1) rfl hS1 (fun w' hw' => Run.nil rfl) ?_
  refine JS.take (i := 2) rfl hS1 (fun w' hw' => Run.field fl36_0 rfl) ?_
  refine JS.take (i := 3) rfl hS1 (fun w' hw' => Run.load t34 rfl (hw'.1.cell rfl)) ?_
  refine JS.take (i := 4) rfl hS1 (fun w' hw' => Run.move rfl) ?_
  refine JS.take (i := 5) rfl hS1 (fun w' hw' => Run.move rfl) ?_
  refine JS.take (i := 6) rfl hS1 (fun w' hw' => Run.nil rfl) ?_
  refine JS.take (i := 7) rfl hS1 (fun w' hw' => Run.field fl36_0 rfl) ?_
  refine JS.take (i := 8) rfl hS1 (fun w' hw' => Run.load t34 rfl (hw'.1.cell rfl)) ?_
  refine JS.take (i := 9) rfl hS1 (fun w' hw' => Run.move rfl) ?_
  refine JS.take (i := 10) rfl hS1 (fun w' hw' => Run.index Yba.underlying34 c29 (by decide) rfl rfl (by omega)) ?_
  refine JS.take (i := 11) rfl hS1 (fun w' hw' => Run.load t29 rfl (by simpa using hw'.2)) ?_
  refine JS.take (i := 12) rfl hS1 (fun w' hw' => Run.move rfl) ?_
  refine JS.loud (i := 13) rfl (Run.buildSlice rfl (buildSlice1 el29 rfl)) (fun _ => hSA1) ?_
  generalize w.drew.alloc (.cells [.int .i64 (j : Int)].toArray 3) = wA1 at *
  have hszw1 : w.drew.heap.size = w.heap.size := rfl
  rw [hszw1] at hnew1 ⊢
  have hrowA1 := hokA1.row _ (List.mem_of_getElem? hr1)
  simp only at hrowA1
  obtain ⟨b1, cap1, w51, hrun1, hown1, hg1, hb1, hlt1⟩ := append_ex (w := wA1) (T := 29) (ad := ⟨w.heap.size, 0, none⟩) (m := 1) (c := 1) (news := [.int .i64 (j : Int)]) el29 hrowA1 (by simp)
    (fun k u hk => by rw [addr_add, Nat.zero_add]; exact hnew1.cell hk) (by simp [Value.oneCell']) (by omega) (by omega) (by omega) (Nat.le_trans hN hupdA1.size)
  have hmb1 : Blk w51 m.b 36 [.slice (some ⟨og1, 0, none⟩) m.rows.length oc1, .int .i64 m.e] := hSA1.1.grown hg1 (fun e => hne1 e.symm)
  have hcc1 : w51.cell? ⟨og1, i, none⟩ = some rv1 := by
    rw [World.cell?_of_block (hg1.block og1 (World.block_lt_of_cell? _ _ hSA1.2) (fun e => hno1 e.symm))]
    exact hSA1.2
  refine JS.loud (i := 14) rfl (Run.append rfl rfl hrun1) (fun _ => ⟨hmb1, hcc1⟩) ?_
  refine JS.take (i := 15) rfl ⟨hmb1, hcc1⟩ (fun w' hw' => Run.index Yba.underlying34 c29 (by decide) rfl rfl (by omega)) ?_
  obtain ⟨l1, hl1, hll1, hok1⟩ := GrOk.push (x := (j : Int)) hokA1 hr1 hov1 hg1 (by simpa [ints] using hown1) (hb1.imp id (fun e => by omega))
  simp only at hok1
  refine JS.eff (i := 16) rfl (Run.store c29 rfl rfl rfl hl1 (by simpa using hll1)) (fun h => absurd rfl h) ?_
  rw [show 0 + i * 1 = i by omega]
  have hupd1 := ((hupdA1.grown hg1 (fun b hb => .inr (.inr ⟨_, List.mem_of_getElem? hr1, hb⟩)) (Gr.foot_set (v' := .slice (some ⟨b1, 0, none⟩) (xs1.length + 1) cap1) (xs' := xs1 ++ [(j : Int)]) hr1 (fun b hb => by
    simp [Value.ownBlock] at hb
    subst hb
    exact hb1.imp id (fun e => by omega)))).stl (.inl (.inr (.inl (by rw [hov1]; rfl)))) (l1.set i (.slice (some ⟨b1, 0, none⟩) (xs1.length + 1) cap1)))
  have hls1 : Gr.lists ⟨m.b, m.e, m.ov, m.rows.set i (.slice (some ⟨b1, 0, none⟩) (xs1.length + 1) cap1, xs1 ++ [(j : Int)])⟩ = pushL i (j : Int) m.lists := by
    simp [Gr.lists, pushL, List.map_set, hr1]
  have hll'1 : ∀ r ∈ m.rows.set i (.slice (some ⟨b1, 0, none⟩) (xs1.length + 1) cap1, xs1 ++ [(j : Int)]), r.2.length ≤ 1000000 + 1 := by
    intro r hr
    rcases List.mem_or_eq_of_mem_set hr with hr | rfl
    · have := hL r hr; omega
    · simp; omega
  refine JS.to (fun _ _ h => h) ?_
  have hlen2 : (m.rows.set i (.slice (some ⟨b1, 0, none⟩) (xs1.length + 1) cap1, xs1 ++ [(j : Int)])).length = m.rows.length := by simp
  generalize hm2 : (⟨m.b, m.e, m.ov, m.rows.set i (.slice (some ⟨b1, 0, none⟩) (xs1.length + 1) cap1, xs1 ++ [(j : Int)])⟩ : Gr) = m2 at *
  have hbm2 : m2.b = m.b := by rw [← hm2]
  have hrl2 : m2.rows.length = m.rows.length := by rw [← hm2]; exact hlen2
  have hLL2 : ∀ r ∈ m2.rows, r.2.length ≤ 1000000 + 1 := by rw [← hm2]; exact hll'1
  rw [← hbm2]
  generalize Go.Fw.stl w51 og1 (l1.set i (.slice (some ⟨b1, 0, none⟩) (xs1.length + 1) cap1)) = w2 at *
  -- region 1 draws
  obtain ⟨og2, oc2, hov2⟩ := ownsRow_some hok1.outer (by omega)
  obtain ⟨⟨rv2, xs2⟩, hr2⟩ : ∃ r, m2.rows[j]? = some r := ⟨m2.rows[j], List.getElem?_eq_getElem (by omega)⟩
  have hrow2 := hok1.row _ (List.mem_of_getElem? hr2)
  simp only at hrow2
  have hcell2 : w2.cell? ⟨og2, j, none⟩ = some rv2 := by
    have h := hok1.outer
    rw [hov2] at h
    exact ownsRow_cell h (by simp [Gr.vals, hr2])
  have hxl2 : xs2.length ≤ 1000000 + 1 := hLL2 _ (List.mem_of_getElem? hr2)
  have hblk2 : Blk w2 m2.b 36 [.slice (some ⟨og2, 0, none⟩) m2.rows.length oc2, .int .i64 m2.e] := hov2 ▸ hok1.blk
  have hne2 : rv2.ownBlock ≠ some m2.b := hok1.rb _ (List.mem_of_getElem? hr2)
  have hno2 : rv2.ownBlock ≠ some og2 := fun e => hok1.ro _ (List.mem_of_getElem? hr2) og2 e (by rw [hov2]; rfl)
  have hokA2 : GrOk (w2.drew.alloc (.cells [.int .i64 (i : Int)].toArray 3)) N m2 := hok1.drew.alloc _
  have hupdA2 : Upd w (w2.drew.alloc (.cells [.int .i64 (i : Int)].toArray 3)) m.foot m2.foot := hupd1.drew.alloc _
  have hnew2 : Blk (w2.drew.alloc (.cells [.int .i64 (i : Int)].toArray 3)) w2.drew.heap.size 3 [.int .i64 (i : Int)] := Blk.new _ _ _
  have hszA2 : w2.heap.size + 1 = (w2.drew.alloc (.cells [.int .i64 (i : Int)].toArray 3)).heap.size := by simp
  have hS2 : (Blk w2.drew m2.b 36 [.slice (some ⟨og2, 0, none⟩) m2.rows.length oc2, .int .i64 m2.e] ∧ w2.drew.cell? ⟨og2, j, none⟩ = some rv2) := ⟨hblk2, hcell2⟩
  have hSA2 : (Blk (w2.drew.alloc (.cells [.int .i64 (i : Int)].toArray 3)) m2.b 36 [.slice (some ⟨og2, 0, none⟩) m2.rows.length oc2, .int .i64 m2.e] ∧ (w2.drew.alloc (.cells [.int .i64 (i : Int)].toArray 3)).cell? ⟨og2, j, none⟩ = some rv2) := by
    refine ⟨hblk2.alloc (w := w2.drew) _, ?_⟩
    have h := hokA2.outer
    rw [hov2] at h
    exact ownsRow_cell h (by simp [Gr.vals, hr2])
  refine J.draw (fun x => Blk x m2.b 36 [.slice (some ⟨og2, 0, none⟩) m2.rows.length oc2, .int .i64 m2.e] ∧ x.cell? ⟨og2, j, none⟩ = some rv2) 16 [(0, true), (1, true), (2, true), (3, true), (4, true), (5, true), (6, true), (7, true), (8, true), (9, true), (10, true), (11, true), (12, true), (13, false), (14, false), (15, true), (16, false)] (by kernel_rfl) (by kernel_rfl) ?_
  refine JS.take (i := 0) rfl hS2 (fun w' hw' => Run.move rfl) ?_
  refine JS.take (i := 1) rfl hS2 (fun w' hw' => Run.nil rfl) ?_
  refine JS.take (i := 2) rfl hS2 (fun w' hw' => Run.field fl36_0 rfl) ?_
  refine JS.take (i := 3) rfl hS2 (fun w' hw' => Run.load t34 rfl (hw'.1.cell rfl)) ?_
  refine JS.take (i := 4) rfl hS2 (fun w' hw' => Run.move rfl) ?_
  refine JS.take (i := 5) rfl hS2 (fun w' hw' => Run.move rfl) ?_
  refine JS.take (i := 6) rfl hS2 (fun w' hw' => Run.nil rfl) ?_
  refine JS.take (i := 7) rfl hS2 (fun w' hw' => Run.field fl36_0 rfl) ?_
  refine JS.take (i := 8) rfl hS2 (fun w' hw' => Run.load t34 rfl (hw'.1.cell rfl)) ?_
  refine JS.take (i := 9) rfl hS2 (fun w' hw' => Run.move rfl) ?_
  refine JS.take (i := 10) rfl hS2 (fun w' hw' => Run.index Yba.underlying34 c29 (by decide) rfl rfl (by omega)) ?_
  refine JS.take (i := 11) rfl hS2 (fun w' hw' => Run.load t29 rfl (by simpa using hw'.2)) ?_
  refine JS.take (i := 12) rfl hS2 (fun w' hw' => Run.move rfl) ?_
  refine JS.loud (i := 13) rfl (Run.buildSlice rfl (buildSlice1 el29 rfl)) (fun _ => hSA2) ?_
  generalize w2.drew.alloc (.cells [.int .i64 (i : Int)].toArray 3) = wA2 at *
  have hszw2 : w2.drew.heap.size = w2.heap.size := rfl
  rw [hszw2] at hnew2 ⊢
  have hrowA2 := hokA2.row _ (List.mem_of_getElem? hr2)
  simp only at hrowA2
  obtain ⟨b2, cap2, w52, hrun2, hown2, hg2, hb2, hlt2⟩ := append_ex (w := wA2) (T := 29) (ad := ⟨w2.heap.size, 0, none⟩) (m := 1) (c := 1) (news := [.int .i64 (i : Int)]) el29 hrowA2 (by simp)
    (fun k u hk => by rw [addr_add, Nat.zero_add]; exact hnew2.cell hk) (by simp [Value.oneCell']) (by omega) (by omega) (by omega) (Nat.le_trans hN hupdA2.size)
  have hmb2 : Blk w52 m2.b 36 [.slice (some ⟨og2, 0, none⟩) m2.rows.length oc2, .int .i64 m2.e] := hSA2.1.grown hg2 (fun e => hne2 e.symm)
  have hcc2 : w52.cell? ⟨og2, j, none⟩ = some rv2 := by
    rw [World.cell?_of_block (hg2.block og2 (World.block_lt_of_cell? _ _ hSA2.2) (fun e => hno2 e.symm))]
    exact hSA2.2
  refine JS.loud (i := 14) rfl (Run.append rfl rfl hrun2) (fun _ => ⟨hmb2, hcc2⟩) ?_
  refine JS.take (i := 15) rfl ⟨hmb2, hcc2⟩ (fun w' hw' => Run.index Yba.underlying34 c29 (by decide) rfl rfl (by omega)) ?_
  obtain ⟨l2, hl2, hll2, hok2⟩ := GrOk.push (x := (i : Int)) hokA2 hr2 hov2 hg2 (by simpa [ints] using hown2) (hb2.imp id (fun e => by omega))
  simp only at hok2
  refine JS.eff (i := 16) rfl (Run.store c29 rfl rfl rfl hl2 (by simpa using hll2)) (fun h => absurd rfl h) ?_
  rw [show 0 + j * 1 = j by omega]
  have hupd2 := ((hupdA2.grown hg2 (fun b hb => .inr (.inr ⟨_, List.mem_of_getElem? hr2, hb⟩)) (Gr.foot_set (v' := .slice (some ⟨b2, 0, none⟩) (xs2.length + 1) cap2) (xs' := xs2 ++ [(i : Int)]) hr2 (fun b hb => by
    simp [Value.ownBlock] at hb
    subst hb
    exact hb2.imp id (fun e => by omega)))).stl (.inl (.inr (.inl (by rw [hov2]; rfl)))) (l2.set j (.slice (some ⟨b2, 0, none⟩) (xs2.length + 1) cap2)))
  have hls2 : Gr.lists ⟨m2.b, m2.e, m2.ov, m2.rows.set j (.slice (some ⟨b2, 0, none⟩) (xs2.length + 1) cap2, xs2 ++ [(i : Int)])⟩ = pushL j (i : Int) m2.lists := by
    simp [Gr.lists, pushL, List.map_set, hr2]
  have hll'2 : ∀ r ∈ m2.rows.set j (.slice (some ⟨b2, 0, none⟩) (xs2.length + 1) cap2, xs2 ++ [(i : Int)]), r.2.length ≤ 1000000 + 1 + 1 := by
    intro r hr
    rcases List.mem_or_eq_of_mem_set hr with hr | rfl
    · have := hLL2 r hr; omega
    · simp; omega
  refine JS.nil ?_
  refine fall0 Yba.f9 R rfl ?_
  exact hR _ _ hok2 hupd2 hbm2 (by rw [hls2, ← hls1])
end Go.Proofs.Ybulkpka
