/-
  (*Graph).search: the breadth-first search over the graph in memory.
-/
import Derived.Test.YbulkpkaLink
import Derived.Test.YbulkpkaPlain
namespace Go.Proofs.Ybulkpka
open Go.Fw Go.RowKit
attribute [local simp] Go.Fw.stl_size

abbrev nats (xs : List Nat) : List Value := xs.map fun x : Nat => .int .i64 ((x : Nat) : Int)

def gadj (m : Gr) (u v : Nat) : Prop := (v : Int) ∈ m.lists.getD u []

/-- The search's state in memory. -/
structure SW (w w' : World) (N : Nat) (m : Gr) (n f hb : Nat) (H0 : List Int) (A0 : Nat → Prop) (k : Nat) (Pr : Nat → Prop) (H : List Int) (Q : List Nat) (a : Option Addr) (c : Nat) : Prop where
  bfs : Bfs n (gadj m) f H0 H Q k Pr
  hops : Blk w' hb 3 (ints H)
  q : w'.ownsRow N 3 1 (.slice a Q.length c) Q.length (nats Q)
  gr : GrOk w' N m
  upd : Upd w w' A0 (fun b => b = hb ∨ (Value.slice a Q.length c).ownBlock = some b)
  d1 : (Value.slice a Q.length c).ownBlock ≠ some hb
  d2 : ∀ b, (Value.slice a Q.length c).ownBlock = some b → ¬ m.foot b

section
variable {w w' : World} {N : Nat} {m : Gr} {n f hb : Nat} {H0 : List Int} {A0 : Nat → Prop} {k : Nat} {Pr Pr' : Nat → Prop} {H : List Int} {Q : List Nat} {a : Option Addr} {c : Nat}
theorem SW.turn (h : SW w w' N m n f hb H0 A0 k Pr H Q a c) {k' : Nat} (hb' : Bfs n (gadj m) f H0 H Q k' Pr') : SW w w' N m n f hb H0 A0 k' Pr' H Q a c :=
  ⟨hb', h.hops, h.q, h.gr, h.upd, h.d1, h.d2⟩
end

theorem ownBlock_slice {a : Option Addr} {l c l' c' : Nat} : (Value.slice a l c).ownBlock = (Value.slice a l' c').ownBlock := by
  cases a <;> rfl

/-- What an append of one node to the queue does, once the hops are stored. -/
theorem SW.push {w w1 : World} {N : Nat} {m : Gr} {n f hb : Nat} {H0 : List Int} {A0 : Nat → Prop} {k : Nat} {Pr : Nat → Prop} {H : List Int} {Q : List Nat} {a : Option Addr} {c u v : Nat}
    (h : SW w w1 N m n f hb H0 A0 k Pr H Q a c) (hN : N ≤ w1.heap.size) (hbm : ¬ m.foot hb) (hn : n ≤ 1000) (hu : Q[k]? = some u) (hv : v < n) (ha : gadj m u v) (hneg : H.getD v 0 < 0) :
    ∃ b' cap' w', (∀ ty, (Builtin.append_ #[29, 29] ty #[.slice a Q.length c, .slice (some ⟨w1.heap.size, 0, none⟩) 1 1]).run Yba.prog ((Fw.stl w1 hb (ints (H.set v (H.getD u 0 + 1)))).alloc (.cells [.int .i64 (v : Int)].toArray 3)) = .ok (.slice (some ⟨b', 0, none⟩) (Q.length + 1) cap') w') ∧
      SW w w' N m n f hb H0 A0 k (fun x => Pr x ∨ x = v) (H.set v (H.getD u 0 + 1)) (Q ++ [v]) (some ⟨b', 0, none⟩) cap' := by
  have hq1 : (Fw.stl w1 hb (ints (H.set v (H.getD u 0 + 1)))).ownsRow N 3 1 (.slice a Q.length c) Q.length (nats Q) := ownsRow_keep h.q (fun b hb' => stl_other (fun e => h.d1 (e ▸ hb')))
  have hg1 : GrOk (Fw.stl w1 hb (ints (H.set v (H.getD u 0 + 1)))) N m := h.gr.stl hbm _
  have hh1 : Blk (Fw.stl w1 hb (ints (H.set v (H.getD u 0 + 1)))) hb 3 (ints (H.set v (H.getD u 0 + 1))) := h.hops.stl _
  have hu1 : Upd w (Fw.stl w1 hb (ints (H.set v (H.getD u 0 + 1)))) A0 (fun b => b = hb ∨ (Value.slice a Q.length c).ownBlock = some b) := h.upd.stl (.inl (.inl rfl)) _
  have hs1 : (Fw.stl w1 hb (ints (H.set v (H.getD u 0 + 1)))).heap.size = w1.heap.size := by simp
  generalize Fw.stl w1 hb (ints (H.set v (H.getD u 0 + 1))) = w2 at *
  rw [← hs1] at hN ⊢
  have hq2 : (w2.alloc (.cells [.int .i64 (v : Int)].toArray 3)).ownsRow N 3 1 (.slice a Q.length c) Q.length (nats Q) := ownsRow_keep hq1 (fun b hb' => Below.heap_alloc w2 _ b (hq1.lt b hb').2)
  have hg2 : GrOk (w2.alloc (.cells [.int .i64 (v : Int)].toArray 3)) N m := hg1.alloc _
  have hh2 : Blk (w2.alloc (.cells [.int .i64 (v : Int)].toArray 3)) hb 3 (ints (H.set v (H.getD u 0 + 1))) := hh1.alloc _
  have hu2 := hu1.alloc (.cells [.int .i64 (v : Int)].toArray 3)
  have hnew : Blk (w2.alloc (.cells [.int .i64 (v : Int)].toArray 3)) w2.heap.size 3 [.int .i64 (v : Int)] := Blk.new _ _ _
  have hs2 : (w2.alloc (.cells [.int .i64 (v : Int)].toArray 3)).heap.size = w2.heap.size + 1 := by simp
  generalize w2.alloc (.cells [.int .i64 (v : Int)].toArray 3) = w3 at *
  have hql := h.bfs.qlen
  obtain ⟨b', cap', w4, hrun, hown, hg, hb', hlt'⟩ := append_ex (w := w3) (T := 29) (ad := ⟨w2.heap.size, 0, none⟩) (m := 1) (c := 1) (news := [.int .i64 (v : Int)]) el29 hq2 (by simp)
    (fun j x hj => by rw [addr_add, Nat.zero_add]; exact hnew.cell hj) (by simp [Value.oneCell']) (by omega) (by omega) (by omega) (by omega)
  have hbhb : b' ≠ hb := by
    rcases hb' with hb' | hb'
    · exact fun e => h.d1 (e ▸ hb')
    · have := hh2.lt; omega
  have hbf : ¬ m.foot b' := by
    rcases hb' with hb' | hb'
    · exact h.d2 b' hb'
    · intro hf'
      have := (hg2.lt hf').2; omega
  refine ⟨b', cap', w4, hrun, h.bfs.yes hu hv ha hneg, hh2.grown hg (fun e => h.d1 e.symm), ?_, ?_, ?_, ?_, ?_⟩
  · have e1 : (Q ++ [v]).length = Q.length + 1 := by simp
    have e2 : nats (Q ++ [v]) = nats Q ++ [.int .i64 (v : Int)] := by simp
    rw [e1, e2]
    exact hown
  · refine hg2.keep fun b hb2 => hg.block b (hg2.lt hb2).2 (fun e => h.d2 b e.symm hb2)
  · refine hu2.grown hg (fun b hb2 => .inr hb2) ?_
    rintro b (rfl | hb2)
    · exact .inl (.inl rfl)
    · simp [Value.ownBlock] at hb2
      subst hb2
      rcases hb' with hb' | hb'
      · exact .inl (.inr hb')
      · exact .inr (by omega)
  · simp [Value.ownBlock]; exact hbhb
  · intro b hb2
    simp [Value.ownBlock] at hb2
    subst hb2
    exact hbf

set_option maxRecDepth 100000
theorem search_calls (w : World) (N : Nat) (m : Gr) (n f hb hc qc : Nat) (qa : Option Addr) (H0 : List Int) (hm : GrOk w N m) (hN : N ≤ w.heap.size)
    (hrows : m.rows.length = n) (hn : n ≤ 1000) (hin : ∀ r ∈ m.rows, ∀ x ∈ r.2, ∃ v : Nat, v < n ∧ x = (v : Int)) (hrl : ∀ r ∈ m.rows, r.2.length ≤ 1000000)
    (hH : Blk w hb 3 (ints H0)) (hlen : H0.length = n) (hf : f < n) (h0 : H0.getD f 0 < 0) (hbf : ¬ m.foot hb)
    (hq : w.ownsRow N 3 1 (.slice qa 0 qc) 0 []) (hqb : (Value.slice qa 0 qc).ownBlock ≠ some hb) (hqm : ∀ b, (Value.slice qa 0 qc).ownBlock = some b → ¬ m.foot b)
    (R : Ending → World → Prop)
    (hR : ∀ w' H Q a c, SW w w' N m n f hb H0 (fun b => b = hb ∨ (Value.slice qa 0 qc).ownBlock = some b) Q.length (fun _ => False) H Q a c → R (.returned (.slice a Q.length c)) w') :
    Calls Yba.prog 7 #[.pointer (some ⟨m.b, 0, none⟩), .int .i64 (f : Int), .slice (some ⟨hb, 0, none⟩) n hc, .slice qa 0 qc] w R := by
  refine calls (args := [_, _, _, _]) (m := 4) Yba.func7 rfl rfl rfl (by decide) ?_
  refine J.seq ?_
  refine J.region ?_    -- region 0
  refine JL.val (Run.assign rfl) ?_    -- s8 := assign c:slice(none,0,0)
  refine JL.to (fun _ _ h => h) ?_
  refine J.seq ?_
  refine J.region ?_    -- region 1
  refine JL.val (Run.move rfl) ?_    -- s13 := move t2
  refine JL.val (Run.move rfl) ?_    -- s14 := move t1
  refine JL.val (Run.index Yba.underlying29 c3 (by decide) rfl rfl hf) ?_    -- s15 := index 29 t13 [t14]
  refine JL.eff (Run.store c3 rfl rfl rfl hH (by simp; omega)) ?_    -- sNone := store 3 [t15] := c:0:i64
  refine JL.to (fun _ _ h => h) ?_
  rw [show 0 + f * 1 = f by omega, show (ints H0).set f (.int .i64 0) = ints (H0.set f 0) by simp [List.map_set]]
  -- the world behind the store
  have hH1 : Blk (Fw.stl w hb (ints (H0.set f 0))) hb 3 (ints (H0.set f 0)) := hH.stl _
  have hm1 : GrOk (Fw.stl w hb (ints (H0.set f 0))) N m := hm.stl hbf _
  have hq1 : (Fw.stl w hb (ints (H0.set f 0))).ownsRow N 3 1 (.slice qa 0 qc) 0 [] := ownsRow_keep hq (fun b hb' => stl_other (fun e => hqb (e ▸ hb')))
  have hu1 : Upd w (Fw.stl w hb (ints (H0.set f 0))) (fun b => b = hb ∨ (Value.slice qa 0 qc).ownBlock = some b) (fun b => b = hb ∨ (Value.slice qa 0 qc).ownBlock = some b) := (Upd.refl w _).stl (.inl (.inl rfl)) _
  have hs1 : (Fw.stl w hb (ints (H0.set f 0))).heap.size = w.heap.size := by simp
  generalize Fw.stl w hb (ints (H0.set f 0)) = w1 at *
  refine J.seq ?_
  refine J.region ?_    -- region 2
  refine JL.val (Run.move rfl) ?_    -- s16 := move t3
  refine JL.val (Run.sliceHi (h := 0) Yba.underlying29 c3 (by decide) rfl rfl (by omega)) ?_    -- s17 := slice 29 t16 none (some (Operand.const (Value.int IntKind.i64 0))) none
  refine JL.val (Run.move rfl) ?_    -- s18 := move t1
  refine JL.val (Run.buildSlice rfl (buildSlice1 el29 rfl)) ?_    -- s19 := buildSlice 29 1 [(0,(Operand.tmp 18))]
  have hq2 : (w1.alloc (.cells [.int .i64 (f : Int)].toArray 3)).ownsRow N 3 1 (.slice qa 0 qc) 0 [] := ownsRow_keep hq1 (fun b hb' => Below.heap_alloc w1 _ b (hq1.lt b hb').2)
  have hm2 : GrOk (w1.alloc (.cells [.int .i64 (f : Int)].toArray 3)) N m := hm1.alloc _
  have hH2 : Blk (w1.alloc (.cells [.int .i64 (f : Int)].toArray 3)) hb 3 (ints (H0.set f 0)) := hH1.alloc _
  have hu2 := hu1.alloc (.cells [.int .i64 (f : Int)].toArray 3)
  have hnew : Blk (w1.alloc (.cells [.int .i64 (f : Int)].toArray 3)) w1.heap.size 3 [.int .i64 (f : Int)] := Blk.new _ _ _
  have hs2 : (w1.alloc (.cells [.int .i64 (f : Int)].toArray 3)).heap.size = w1.heap.size + 1 := by simp
  generalize w1.alloc (.cells [.int .i64 (f : Int)].toArray 3) = w2 at *
  obtain ⟨b', cap', w4, hrun, hown, hg, hb', hlt'⟩ := append_ex (w := w2) (T := 29) (ad := ⟨w1.heap.size, 0, none⟩) (m := 1) (c := 1) (news := [.int .i64 (f : Int)]) el29 hq2 (by simp)
    (fun j x hj => by rw [addr_add, Nat.zero_add]; exact hnew.cell hj) (by simp [Value.oneCell']) (by omega) (by omega) (by omega) (by omega)
  refine JL.val (Run.append rfl rfl hrun) ?_    -- s20 := builtin Builtin.append(t17, t19) [29,29]
  refine JL.val (Run.assign rfl) ?_    -- s3 := assign t20
  refine JL.to (fun _ _ h => h) ?_
  have hst : SW w w4 N m n f hb H0 (fun b => b = hb ∨ (Value.slice qa 0 qc).ownBlock = some b) 0 (fun _ => False) (H0.set f 0) [f] (some ⟨b', 0, none⟩) cap' := by
    have hbhb : b' ≠ hb := by
      rcases hb' with hb' | hb'
      · exact fun e => hqb (e ▸ hb')
      · have := hH2.lt; omega
    have hbf' : ¬ m.foot b' := by
      rcases hb' with hb' | hb'
      · exact hqm b' hb'
      · intro hf'
        have := (hm2.lt hf').2; omega
    refine ⟨Bfs.start hlen hf h0, hH2.grown hg (fun e => hqb e.symm), hown, hm2.keep fun b hb2 => hg.block b (hm2.lt hb2).2 (fun e => hqm b e.symm hb2), ?_, ?_, ?_⟩
    · refine hu2.grown hg (fun b hb2 => .inr hb2) ?_
      rintro b (rfl | hb2)
      · exact .inl (.inl rfl)
      · simp [Value.ownBlock] at hb2
        subst hb2
        rcases hb' with hb' | hb'
        · exact .inl (.inr hb')
        · exact .inr (by omega)
    · simp [Value.ownBlock]; exact hbhb
    · intro b hb2
      simp [Value.ownBlock] at hb2
      subst hb2
      exact hbf'
  clear hg hrun hown hb' hlt' hH2 hm2 hq2 hu2 hnew
  refine J.seq ?_
  refine J.seq ?_
  refine J.region ?_    -- region 3
  refine JL.val (Run.assign rfl) ?_    -- s9 := assign c:0:i64
  refine JL.to (fun _ _ h => h) ?_
  refine J.block ?_    -- block 0
  refine J.loop (ι := Nat × List Int × List Nat × Option Addr × Nat)
    (fun i => [(0, .pointer (some ⟨m.b, 0, none⟩)), (2, .slice (some ⟨hb, 0, none⟩) n hc), (3, .slice i.2.2.2.1 i.2.2.1.length i.2.2.2.2), (9, .int .i64 (i.1 : Int))])
    (fun i w' => i.1 ≤ i.2.2.1.length ∧ SW w w' N m n f hb H0 (fun b => b = hb ∨ (Value.slice qa 0 qc).ownBlock = some b) i.1 (fun _ => False) i.2.1 i.2.2.1 i.2.2.2.1 i.2.2.2.2)
    (fun i => n - i.1) (0, H0.set f 0, [f], some ⟨b', 0, none⟩, cap') ⟨rfl, rfl, rfl, rfl, trivial⟩ ⟨by simp, hst⟩ ?_
  clear hst
  rintro ⟨k, H, Q, a, c⟩ w5 ⟨hk, hs⟩
  simp only at hk hs ⊢
  have hql := hs.bfs.qlen
  refine J.seq ?_
  refine J.seq ?_
  refine J.region ?_    -- region 4
  refine JL.val (Run.move rfl) ?_    -- s21 := move t9
  refine JL.val (Run.move rfl) ?_    -- s22 := move t3
  refine JL.val (Run.len Yba.underlying29 rfl) ?_    -- s23 := builtin Builtin.len(t22) [29]
  refine JL.val (Run.lss rfl rfl) ?_    -- s24 := lss t21 t23
  refine JL.to (fun _ _ h => h) ?_
  refine J.cond rfl (fun hc => ?_) (fun hc => ?_)    -- if t24
  · have hkl : k < Q.length := by have := of_decide_eq_true hc; omega
    clear hc
    refine J.skipTo (fun _ _ h => h) ?_
    obtain ⟨u, hu⟩ : ∃ u, Q[k]? = some u := ⟨Q[k], List.getElem?_eq_getElem hkl⟩
    have huQ := List.mem_of_getElem? hu
    have hun := hs.bfs.lt u huQ
    obtain ⟨qb, qcap, hqs⟩ := ownsRow_some hs.q (by omega)
    simp only [Value.slice.injEq, true_and] at hqs
    obtain ⟨rfl, rfl⟩ := hqs
    have hcell : w5.cell? ⟨qb, k, none⟩ = some (.int .i64 (u : Int)) := ownsRow_cell hs.q (by simp [hu])
    obtain ⟨og, oc, hov⟩ := ownsRow_some hm.outer (by omega)
    obtain ⟨⟨rv, xs⟩, hr⟩ : ∃ r, m.rows[u]? = some r := ⟨m.rows[u], List.getElem?_eq_getElem (by omega)⟩
    have hrv : w5.cell? ⟨og, u, none⟩ = some rv := by
      have h := hs.gr.outer
      rw [hov] at h
      exact ownsRow_cell h (by simp [Gr.vals, hr])
    have hblk : Blk w5 m.b 36 [.slice (some ⟨og, 0, none⟩) m.rows.length oc, .int .i64 m.e] := hov ▸ hs.gr.blk
    have hxl : xs.length ≤ 1000000 := hrl _ (List.mem_of_getElem? hr)
    have hxin : ∀ x ∈ xs, ∃ v : Nat, v < n ∧ x = (v : Int) := hin _ (List.mem_of_getElem? hr)
    have hadj : ∀ v, gadj m u v ↔ (v : Int) ∈ xs := fun v => by simp [gadj, Gr.lists, hr]
    obtain ⟨ra, rc, hrs⟩ := ownsRow_slice (hs.gr.row _ (List.mem_of_getElem? hr))
    simp only at hrs
    subst hrs
    refine J.seq ?_
    refine J.block ?_    -- block 1
    refine J.seq ?_
    refine J.region ?_    -- region 6
    refine JL.val (Run.move rfl) ?_    -- s27 := move t3
    refine JL.val (Run.move rfl) ?_    -- s28 := move t9
    refine JL.val (Run.index Yba.underlying29 c3 (by decide) rfl rfl hkl) ?_    -- s29 := index 29 t27 [t28]
    refine JL.val (Run.load t3 rfl (by simpa using hcell)) ?_    -- s30 := load 3 [t29]
    refine JL.val (Run.assign rfl) ?_    -- s10 := assign t30
    refine JL.to (fun _ _ h => h) ?_
    refine J.seq ?_
    refine J.region ?_    -- region 7
    refine JL.val (Run.move rfl) ?_    -- s31 := move t0
    refine JL.val (Run.nil rfl) ?_    -- s32 := nilCheck t31
    refine JL.val (Run.field fl36_0 rfl) ?_    -- s33 := field 36 t32 .0
    refine JL.val (Run.load t34 rfl (hblk.cell rfl)) ?_    -- s34 := load 34 [t33]
    refine JL.val (Run.move rfl) ?_    -- s35 := move t10
    refine JL.val (Run.index Yba.underlying34 c29 (by decide) rfl rfl (by omega)) ?_    -- s36 := index 34 t34 [t35]
    refine JL.val (Run.load t29 rfl (by simpa using hrv)) ?_    -- s37 := load 29 [t36]
    refine JL.val (Run.len Yba.underlying29 rfl) ?_    -- s38 := builtin Builtin.len(t37) [29]
    refine JL.val (Run.move rfl) ?_    -- s39 := move c:0:i64
    refine JL.to (fun _ _ h => h) ?_
    refine J.block ?_    -- block 2
    refine J.loop (ι := Nat × List Int × List Nat × Option Addr × Nat)
      (fun i => [(0, .pointer (some ⟨m.b, 0, none⟩)), (2, .slice (some ⟨hb, 0, none⟩) n hc), (3, .slice i.2.2.2.1 i.2.2.1.length i.2.2.2.2), (9, .int .i64 (k : Int)), (10, .int .i64 (u : Int)), (37, .slice ra xs.length rc), (38, .int .i64 (xs.length : Int)), (39, .int .i64 (i.1 : Int))])
      (fun i w' => i.1 ≤ xs.length ∧ i.2.2.1[k]? = some u ∧ SW w w' N m n f hb H0 (fun b => b = hb ∨ (Value.slice qa 0 qc).ownBlock = some b) k (fun v => (v : Int) ∈ xs.take i.1) i.2.1 i.2.2.1 i.2.2.2.1 i.2.2.2.2)
      (fun i => xs.length - i.1) (0, H, Q, some ⟨qb, 0, none⟩, c) ⟨rfl, rfl, rfl, rfl, rfl, rfl, rfl, rfl, trivial⟩ ⟨by omega, hu, hs.turn (hs.bfs.weak (by simp))⟩ ?_
    clear hs hk hkl hu hql hcell hrv hblk huQ
    rintro ⟨p, H, Q, a, c⟩ w6 ⟨hp, hu, hs⟩
    simp only at hp hu hs ⊢
    have hql := hs.bfs.qlen
    have huQ := List.mem_of_getElem? hu
    have hkl : k < Q.length := (List.getElem?_eq_some_iff.1 hu).1
    have hHl := hs.bfs.len
    refine J.seq ?_
    refine J.region ?_    -- region 8
    refine JL.val (Run.lss rfl rfl) ?_    -- s40 := lss t39 t38
    refine JL.to (fun _ _ h => h) ?_
    refine J.seq ?_
    refine J.cond rfl (fun hc => ?_) (fun hc => ?_)    -- if t40
    · have hpl : p < xs.length := by have := of_decide_eq_true hc; omega
      clear hc
      refine J.skipTo (fun _ _ h => h) ?_
      obtain ⟨x, hx⟩ : ∃ x, xs[p]? = some x := ⟨xs[p], List.getElem?_eq_getElem hpl⟩
      obtain ⟨v, hv, rfl⟩ := hxin x (List.mem_of_getElem? hx)
      have hav : gadj m u v := (hadj v).2 (List.mem_of_getElem? hx)
      have hrow := hs.gr.row _ (List.mem_of_getElem? hr)
      simp only at hrow
      obtain ⟨rg, rcap, hrs⟩ := ownsRow_some hrow (by omega)
      simp only [Value.slice.injEq, true_and] at hrs
      obtain ⟨rfl, rfl⟩ := hrs
      have hcell : w6.cell? ⟨rg, p, none⟩ = some (.int .i64 (v : Int)) := ownsRow_cell hrow (by simp [hx])
      have hHv : w6.cell? ⟨hb, v, none⟩ = some (.int .i64 (H.getD v 0)) := hs.hops.cell (by simp [List.getD, List.getElem?_eq_getElem (show v < H.length by omega)])
      have hHu : w6.cell? ⟨hb, u, none⟩ = some (.int .i64 (H.getD u 0)) := hs.hops.cell (by simp [List.getD, List.getElem?_eq_getElem (show u < H.length by omega)])
      have htake : xs.take (p + 1) = xs.take p ++ [(v : Int)] := by
        rw [List.take_add_one, hx]
        rfl
      have hPr : ∀ y, y < n → (y : Int) ∈ xs.take (p + 1) → (y : Int) ∈ xs.take p ∨ y = v := fun y _ hy => by
        rw [htake] at hy
        rcases List.mem_append.1 hy with hy | hy
        · exact .inl hy
        · simp at hy
          exact .inr (by omega)
      refine J.seq ?_
      refine J.block ?_    -- block 3
      refine J.seq ?_
      refine J.region ?_    -- region 9
      refine JL.val (Run.index Yba.underlying29 c3 (by decide) rfl rfl hpl) ?_    -- s41 := index 29 t37 [t39]
      refine JL.val (Run.load t3 rfl (by simpa using hcell)) ?_    -- s42 := load 3 [t41]
      refine JL.val (Run.assign rfl) ?_    -- s12 := assign t42
      refine JL.to (fun _ _ h => h) ?_
      refine J.seq ?_
      refine J.region ?_    -- region 10
      refine JL.val (Run.move rfl) ?_    -- s43 := move t2
      refine JL.val (Run.move rfl) ?_    -- s44 := move t12
      refine JL.val (Run.index Yba.underlying29 c3 (by decide) rfl rfl hv) ?_    -- s45 := index 29 t43 [t44]
      refine JL.val (Run.load t3 rfl (by rw [Nat.mul_one, Nat.zero_add]; exact hHv)) ?_    -- s46 := load 3 [t45]
      refine JL.val (Run.lss rfl rfl) ?_    -- s47 := lss t46 c:0:i64
      refine JL.to (fun _ _ h => h) ?_
      refine J.cond rfl (fun hc => ?_) (fun hc => ?_)    -- if t47
      · have hneg : H.getD v 0 < 0 := of_decide_eq_true hc
        have hlow := hs.bfs.low k u hu
        have hup := (hs.bfs.inn u huQ).2
        have hsz : N ≤ w6.heap.size := Nat.le_trans hN hs.upd.size
        obtain ⟨b2, cap2, w7, hrun, hs7⟩ := hs.push hsz hbf hn hu hv hav hneg
        refine J.seq ?_
        refine J.region ?_    -- region 11
        refine JL.val (Run.move rfl) ?_    -- s48 := move t2
        refine JL.val (Run.move rfl) ?_    -- s49 := move t12
        refine JL.val (Run.move rfl) ?_    -- s50 := move t2
        refine JL.val (Run.move rfl) ?_    -- s51 := move t10
        refine JL.val (Run.index Yba.underlying29 c3 (by decide) rfl rfl hun) ?_    -- s52 := index 29 t50 [t51]
        refine JL.val (Run.load t3 rfl (by rw [Nat.mul_one, Nat.zero_add]; exact hHu)) ?_    -- s53 := load 3 [t52]
        refine JL.val (Run.add (c := H.getD u 0 + 1) rfl rfl (by omega) (by omega) (by omega)) ?_    -- s54 := add t53 c:1:i64
        refine JL.val (Run.index Yba.underlying29 c3 (by decide) rfl rfl hv) ?_    -- s55 := index 29 t48 [t49]
        refine JL.eff (Run.store c3 rfl rfl rfl hs.hops (by simp; omega)) ?_    -- sNone := store 3 [t55] := t54
        refine JL.to (fun _ _ h => h) ?_
        rw [show 0 + v * 1 = v by omega, show (ints H).set v (.int .i64 (H.getD u 0 + 1)) = ints (H.set v (H.getD u 0 + 1)) by simp [List.map_set]]
        refine J.region ?_    -- region 12
        refine JL.val (Run.move rfl) ?_    -- s56 := move t3
        refine JL.val (Run.move rfl) ?_    -- s57 := move t12
        refine JL.val (Run.buildSlice rfl (buildSlice1 el29 rfl)) ?_    -- s58 := buildSlice 29 1 [(0,(Operand.tmp 57))]
        rw [stl_size]
        refine JL.val (Run.append rfl rfl hrun) ?_    -- s59 := builtin Builtin.append(t56, t58) [29,29]
        refine JL.val (Run.assign rfl) ?_    -- s3 := assign t59
        refine JL.to (fun _ _ h => h) ?_
        refine J.region ?_    -- region 13
        refine JL.val (Run.add (c := ((p + 1 : Nat) : Int)) rfl rfl (by omega) (by omega) (by omega)) ?_    -- s60 := add t39 c:1:i64
        refine JL.val (Run.move rfl) ?_    -- s39 := move t60
        refine JL.nil fun a ha => ⟨(p + 1, H.set v (H.getD u 0 + 1), Q ++ [v], some ⟨b2, 0, none⟩, cap2), by simp only; omega, ha.sub ⟨rfl, rfl, by simp only [List.length_append, List.length_singleton]; rfl, rfl, rfl, rfl, rfl, rfl, trivial⟩, by simp only; omega, ?_, hs7.turn (hs7.bfs.weak hPr)⟩
        show (Q ++ [v])[k]? = some u
        rw [List.getElem?_append_left hkl]
        exact hu
      · have hpos : 0 ≤ H.getD v 0 := by have := of_decide_eq_false hc; omega
        refine J.skipTo (fun _ _ h => h) ?_
        refine J.region ?_    -- region 13
        refine JL.val (Run.add (c := ((p + 1 : Nat) : Int)) rfl rfl (by omega) (by omega) (by omega)) ?_    -- s60 := add t39 c:1:i64
        refine JL.val (Run.move rfl) ?_    -- s39 := move t60
        refine JL.nil fun a' ha => ⟨(p + 1, H, Q, a, c), by simp only; omega, ha.sub ⟨rfl, rfl, rfl, rfl, rfl, rfl, rfl, rfl, trivial⟩, by simp only; omega, hu, hs.turn ((hs.bfs.no (v := v) hpos).weak hPr)⟩
    · have hpl : p = xs.length := by have := of_decide_eq_false hc; omega
      clear hc
      refine J.exitTo (fun _ _ h => h) ?_    -- exit 2
      refine J.region ?_    -- region 5
      refine JL.val (Run.move rfl) ?_    -- s25 := move t9
      refine JL.val (Run.add (c := ((k + 1 : Nat) : Int)) rfl rfl (by omega) (by omega) (by omega)) ?_    -- s26 := add t25 c:1:i64
      refine JL.val (Run.assign rfl) ?_    -- s9 := assign t26
      refine JL.nil fun a' ha => ⟨(k + 1, H, Q, a, c), by simp only; omega, ha.sub ⟨rfl, rfl, rfl, rfl, trivial⟩, by simp only; omega, hs.turn (hs.bfs.next hu (fun v _ hv => by rw [hpl, List.take_length]; exact (hadj v).1 hv))⟩
  · have hkl : k = Q.length := by have := of_decide_eq_false hc; omega
    refine J.exitTo (fun _ _ h => h) ?_    -- exit 0
    refine J.seq ?_
    refine J.region ?_    -- region 14
    refine JL.val (Run.move rfl) ?_    -- s61 := move t3
    refine JL.val (Run.assign rfl) ?_    -- s8 := assign t61
    refine JL.to (fun _ _ h => h) ?_
    refine J.ret1 Yba.f7 R (fun _ _ h => h) rfl rfl ?_
    exact hR _ H Q a c (hkl ▸ hs)
end Go.Proofs.Ybulkpka
