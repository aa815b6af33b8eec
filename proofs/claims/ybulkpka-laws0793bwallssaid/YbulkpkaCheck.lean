/-
  zzs0793bcheck: the search held against rounds of relaxation.
-/
import Derived.Test.YbulkpkaBuild
namespace Go.Proofs.Ybulkpka
open Go.Fw Go.RowKit
attribute [local simp] Go.Fw.stl_size

theorem yieldedU {n : Nat} {e : List (Nat × Value)} {ops : Array Oper} {a : Act} (ha : Has a n e) {j dj : Nat} (hj : (ops[j]?).bind (·.dst) = some dj) (hl : Go.Fw.look e dj = some undef) : Go.yielded ops a.tmps j = none := by
  unfold Go.yielded
  rw [hj]
  simp [ha.get _ _ hl, undef]

/-- A guarded operation whose guard was itself passed over. -/
theorem JS.gskipU {P : Program} {ops : Array Oper} {Q : Exit → Act → World → Prop} {S : World → Prop} {k : Nat} {r : List (Nat × Bool)} {n : Nat} {e : List (Nat × Value)} {w : World} {i d j dj : Nat} {c : Bool} {op : Op} {ty : TypeId} {pos : String} {af : Array Edge} (hi : ops[i]? = some ⟨some d, op, ty, pos, af, some (j, c)⟩) (hj : (ops[j]?).bind (·.dst) = some dj) (hl : Go.Fw.look e dj = some undef) (hS : S w)
    (h : JS P ops Q S k r n ((d, undef) :: e) w) (hd : d < n := by decide) : JS P ops Q S k ((i, true) :: r) n e w :=
  fun _ ha => ⟨_, undef, hi, hS, .inr ⟨by simp [Region.wanted, yieldedU ha hj hl], rfl⟩, h _ (ha.put hd)⟩

/-- A slice of bools that can be read. -/
def Bls (w : World) (v : Value) (bs : List Bool) : Prop :=
  ∃ a cap, v = .slice a bs.length cap ∧ ∀ i (x : Bool), bs[i]? = some x → ∃ b o, a = some ⟨b, o, none⟩ ∧ w.cell? ⟨b, o + i, none⟩ = some (.bool x)

def wlOf (bs : List Bool) (f v : Nat) : Bool := bs.getD v false && decide (v ≠ f)

theorem range_set {α : Type} (n k : Nat) (g g' : Nat → α) (h : ∀ v, v ≠ k → g' v = g v) : ((List.range n).map g).set k (g' k) = (List.range n).map g' := by
  apply List.ext_getElem?
  intro i
  by_cases hik : i = k
  · subst hik
    by_cases hi : i < n
    · rw [List.getElem?_set_self (by simpa using hi)]
      simp [hi]
    · rw [List.getElem?_eq_none (by simp; omega), List.getElem?_eq_none (by simp; omega)]
  · rw [List.getElem?_set_ne (Ne.symm hik)]
    by_cases hi : i < n
    · simp [hi, h i hik]
    · rw [List.getElem?_eq_none (by simp; omega), List.getElem?_eq_none (by simp; omega)]

theorem range_get {α : Type} {n k : Nat} (g : Nat → α) (h : k < n) : ((List.range n).map g)[k]? = some (g k) := by simp [h]

def wallK (n : Nat) (wl : Nat → Bool) (k : Nat) : List Value := (List.range n).map fun v => Value.bool (decide (v < k) && wl v)
def hopK (n : Nat) (wl : Nat → Bool) (k : Nat) : List Int := (List.range n).map fun v => if v < k then (if wl v then 7 else -1) else 0
def hop0 (n : Nat) (wl : Nat → Bool) : List Int := (List.range n).map fun v => if wl v then 7 else -1

theorem wallK_step (n : Nat) (wl : Nat → Bool) (k : Nat) : (wallK n wl k).set k (.bool (wl k)) = wallK n wl (k + 1) := by
  have := range_set n k (fun v => Value.bool (decide (v < k) && wl v)) (fun v => Value.bool (decide (v < k + 1) && wl v)) (fun v hv => by
    have : decide (v < k + 1) = decide (v < k) := by
      by_cases h : v < k
      · simp [h, show v < k + 1 by omega]
      · simp [h, show ¬ v < k + 1 by omega]
    rw [this])
  simpa [wallK] using this

theorem hopK_step (n : Nat) (wl : Nat → Bool) (k : Nat) : (hopK n wl k).set k (if wl k then 7 else -1) = hopK n wl (k + 1) := by
  have := range_set n k (fun v => if v < k then (if wl v then (7 : Int) else -1) else 0) (fun v => if v < k + 1 then (if wl v then (7 : Int) else -1) else 0) (fun v hv => by
    by_cases h : v < k
    · simp [h, show v < k + 1 by omega]
    · simp [h, show ¬ v < k + 1 by omega])
  simpa [hopK] using this

theorem hopK_all (n : Nat) (wl : Nat → Bool) : hopK n wl n = hop0 n wl := by
  apply List.map_congr_left
  intro v hv
  simp [List.mem_range.1 hv]

theorem wallK_get {n : Nat} {wl : Nat → Bool} {v : Nat} (h : v < n) : (wallK n wl n)[v]? = some (.bool (wl v)) := by
  rw [wallK, range_get _ h]
  simp [h]

theorem hop0_get {n : Nat} {wl : Nat → Bool} {v : Nat} (h : v < n) : (hop0 n wl).getD v 0 = if wl v then 7 else -1 := by
  rw [hop0, List.getD, range_get _ h]
  rfl

theorem ints_get {D : List Int} {v : Nat} (h : v < D.length) : (ints D)[v]? = some (.int .i64 (D.getD v 0)) := by
  simp [List.getD, List.getElem?_eq_getElem h]

/-- What lies in memory while the relaxation runs. -/
structure St (w w' : World) (m : Gr) (B : Nat) (Wl : List Value) (H D : List Int) : Prop where
  gr : GrOk w' w.heap.size m
  foot : ∀ b, m.foot b → b < B
  base : w.heap.size ≤ B
  wall : Blk w' B 4 Wl
  hops : Blk w' (B + 1) 3 (ints H)
  dist : Blk w' (B + 2) 3 (ints D)
  bel : Below w.heap.size w w'

section
variable {w w' : World} {m : Gr} {B : Nat} {Wl : List Value} {H D : List Int}
theorem St.drew (h : St w w' m B Wl H D) : St w w'.drew m B Wl H D := ⟨h.gr.drew, h.foot, h.base, h.wall, h.hops, h.dist, h.bel.drew⟩
theorem St.alloc (h : St w w' m B Wl H D) (o : Obj) : St w (w'.alloc o) m B Wl H D :=
  ⟨h.gr.alloc o, h.foot, h.base, h.wall.alloc o, h.hops.alloc o, h.dist.alloc o, h.bel.alloc (Nat.le_trans h.base (Nat.le_of_lt h.wall.lt)) o⟩
theorem St.setD (h : St w w' m B Wl H D) (D' : List Int) : St w (Fw.stl w' (B + 2) (ints D')) m B Wl H D' :=
  ⟨h.gr.stl (fun hf => by have := h.foot _ hf; omega) _, h.foot, h.base, h.wall.stl_ne (by omega), h.hops.stl_ne (by omega), h.dist.stl _, h.bel.stl (by have := h.base; omega) _⟩
theorem St.setH (h : St w w' m B Wl H D) (H' : List Int) : St w (Fw.stl w' (B + 1) (ints H')) m B Wl H' D :=
  ⟨h.gr.stl (fun hf => by have := h.foot _ hf; omega) _, h.foot, h.base, h.wall.stl_ne (by omega), h.hops.stl _, h.dist.stl_ne (by omega), h.bel.stl (by have := h.base; omega) _⟩
end

theorem relax_take {wall : Nat → Bool} {es : List (Nat × Nat)} {j : Nat} {e : Nat × Nat} (h : es[j]? = some e) (D : List Int) : (es.take (j + 1)).foldl (relax wall) D = relax wall ((es.take j).foldl (relax wall) D) e := by
  rw [take_snoc h, List.foldl_append]
  rfl

set_option maxRecDepth 100000

theorem check_calls (w : World) (n f : Nat) (v wv : Value) (es : List (Nat × Nat)) (bs : List Bool) (hv : Eds w v es) (hwv : Bls w wv bs) (hn0 : 0 < n) (hn : n ≤ 40) (hf : f < n) (hes : es.length ≤ 1024) (hbs : bs.length ≤ 1024)
    (R : Ending → World → Prop) (hR : ∀ w', Below w.heap.size w w' → R (.returned (.bool true)) w') :
    Calls Yba.prog 5 #[.int .i64 (n : Int), v, .int .i64 (f : Int), wv] w R := by
  obtain ⟨wa, wcap, rfl, hbc⟩ := hwv
  have hv0 := hv
  obtain ⟨ea, ecap, rfl, hec⟩ := hv
  refine calls (args := [_, _, _, _]) (m := 4) Yba.func5 rfl rfl rfl (by decide) ?_
  refine J.seq ?_
  refine J.region ?_    -- region 0
  refine JL.val (Run.assign rfl) ?_    -- s8 := assign c:bool(false)
  refine JL.to (fun _ _ h => h) ?_
  refine J.seq ?_
  refine J.region ?_    -- region 1
  refine JL.val (Run.move rfl) ?_    -- s27 := move t0
  refine JL.val (Run.move rfl) ?_    -- s28 := move t1
  refine JL.call rfl Yba.func6 rfl rfl ?_    -- s29 := CALL f6(t27, t28) [3,22]
  refine build_calls w w.heap.size n _ es hv0 (Nat.le_refl _) hn0 (by omega) hes _ ?_
  intro w1 m hok1 hupd1 hlst
  refine ⟨_, rfl, ?_⟩
  refine JL.val (Run.assign rfl) ?_    -- s9 := assign t29
  refine JL.to (fun _ _ h => h) ?_
  have hbel1 : Below w.heap.size w w1 := hupd1.below (Nat.le_refl _) (fun _ h => h.elim)
  have hfoot : ∀ b, m.foot b → b < w1.heap.size := fun b hb => (hok1.lt hb).2
  have hbase : w.heap.size ≤ w1.heap.size := hupd1.size
  generalize hB : w1.heap.size = B at *
  refine J.seq ?_
  refine J.region ?_    -- region 2
  refine JL.val (Run.move rfl) ?_    -- s30 := move t0
  refine JL.val (Run.make (l := n) (c := n) el25 z4 (zs := [.bool false]) rfl rfl rfl (by omega) (by omega) (by omega)) ?_    -- s31 := makeSlice 25 t30 t30
  rw [rep_one, hB]
  refine JL.val (Run.assign rfl) ?_    -- s10 := assign t31
  refine JL.to (fun _ _ h => h) ?_
  have hwall0 : Blk (w1.alloc (.cells (List.replicate n (.bool false : Value)).toArray 4)) B 4 (wallK n (wlOf bs f) 0) := by
    have := Blk.new w1 4 (List.replicate n (.bool false : Value))
    rw [hB] at this
    have e : wallK n (wlOf bs f) 0 = List.replicate n (.bool false) := by simp [wallK, List.map_const']
    rw [e]
    exact this
  have hgr0 : GrOk (w1.alloc (.cells (List.replicate n (.bool false : Value)).toArray 4)) w.heap.size m := hok1.alloc _
  have hbel0 : Below w.heap.size w (w1.alloc (.cells (List.replicate n (.bool false : Value)).toArray 4)) := hbel1.alloc (by omega) _
  have hsz0 : (w1.alloc (.cells (List.replicate n (.bool false : Value)).toArray 4)).heap.size = B + 1 := by simp [hB]
  generalize w1.alloc (.cells (List.replicate n (.bool false : Value)).toArray 4) = w2 at *
  refine J.seq ?_
  refine J.seq ?_
  refine J.region ?_    -- region 3
  refine JL.val (Run.assign rfl) ?_    -- s11 := assign c:0:i64
  refine JL.to (fun _ _ h => h) ?_
  refine J.block ?_    -- block 0
  refine J.loop (ι := Nat) (fun k => [(0, .int .i64 (n : Int)), (1, .slice ea es.length ecap), (2, .int .i64 (f : Int)), (3, .slice wa bs.length wcap), (9, .pointer (some ⟨m.b, 0, none⟩)), (10, .slice (some ⟨B, 0, none⟩) n n), (11, .int .i64 (k : Int))])
    (fun k w' => k ≤ n ∧ GrOk w' w.heap.size m ∧ Blk w' B 4 (wallK n (wlOf bs f) k) ∧ Below w.heap.size w w' ∧ w'.heap.size = B + 1) (fun k => n - k) 0 ⟨rfl, rfl, rfl, rfl, rfl, rfl, rfl, trivial⟩ ⟨by omega, hgr0, hwall0, hbel0, hsz0⟩ ?_
  clear hgr0 hwall0 hbel0 hsz0 hbel1 hok1 hupd1
  rintro k w3 ⟨hk, hgr, hwall, hbel, hsz⟩
  refine J.seq ?_
  refine J.seq ?_
  refine J.region ?_    -- region 4
  refine JL.val (Run.move rfl) ?_    -- s32 := move t11
  refine JL.val (Run.move rfl) ?_    -- s33 := move t0
  refine JL.val (Run.lss rfl rfl) ?_    -- s34 := lss t32 t33
  refine JL.to (fun _ _ h => h) ?_
  refine J.cond rfl (fun hc => ?_) (fun hc => ?_)    -- if t34
  · have hkn : k < n := by have := of_decide_eq_true hc; omega
    clear hc
    refine J.skipTo (fun _ _ h => h) ?_
    refine J.seq ?_
    refine J.block ?_    -- block 1
    refine J.region ?_    -- region 6
    refine JL.val (Run.move rfl) ?_    -- s37 := move t10
    refine JL.val (Run.move rfl) ?_    -- s38 := move t11
    refine JL.val (Run.move rfl) ?_    -- s39 := move t11
    refine JL.val (Run.move rfl) ?_    -- s40 := move t3
    refine JL.val (Run.len Yba.underlying25 rfl) ?_    -- s41 := builtin Builtin.len(t40) [25]
    by_cases hkl : k < bs.length
    · obtain ⟨x, hx⟩ : ∃ x, bs[k]? = some x := ⟨bs[k], List.getElem?_eq_getElem hkl⟩
      obtain ⟨b, o, rfl, hcell⟩ := hbc k x hx
      have hcell3 := hbel.cell1 hcell
      refine JL.val ((Run.lss rfl rfl).to (bt (by omega))) ?_    -- s42 := lss t39 t41
      refine JL.val (Run.move rfl) ?_    -- s43 := move t42
      refine JL.gval rfl rfl (Run.move rfl) ?_    -- s44 := move t3  G(6, True)
      refine JL.gval rfl rfl (Run.move rfl) ?_    -- s45 := move t11  G(6, True)
      refine JL.gval rfl rfl (Run.index Yba.underlying25 c4 (by decide) rfl rfl hkl) ?_    -- s46 := index 25 t44 [t45]  G(6, True)
      refine JL.gval rfl rfl (Run.load t4 rfl (by rw [Nat.mul_one]; exact hcell3)) ?_    -- s47 := load 4 [t46]  G(6, True)
      refine JL.val (Run.pickT rfl rfl) ?_    -- s48 := pick t43 t47 c:bool(false)
      refine JL.val (Run.move rfl) ?_    -- s49 := move t48
      cases x with
      | true =>
        have hwl : wlOf bs f k = decide (¬ (k : Int) = (f : Int)) := by
          simp only [wlOf, List.getD, hx, Option.getD_some, Bool.true_and]
          by_cases h : k = f
          · simp [h]
          · simp [h, show ¬ (k : Int) = (f : Int) by omega]
        refine JL.gval rfl rfl (Run.move rfl) ?_    -- s50 := move t11  G(12, True)
        refine JL.gval rfl rfl (Run.move rfl) ?_    -- s51 := move t2  G(12, True)
        refine JL.gval rfl rfl (Run.neq rfl rfl) ?_    -- s52 := neq t50 t51  G(12, True)
        refine JL.val ((Run.pickT rfl rfl).to (v' := .bool (wlOf bs f k)) (by rw [hwl])) ?_    -- s53 := pick t49 t52 c:bool(false)
        refine JL.val (Run.index Yba.underlying25 c4 (by decide) rfl rfl hkn) ?_    -- s54
        refine JL.eff (Run.store c4 rfl rfl rfl hwall (by simp [wallK]; omega)) ?_    -- store
        refine JL.to (fun _ _ h => h) ?_
        rw [show 0 + k * 1 = k by omega, wallK_step]
        refine J.region ?_    -- region 5
        refine JL.val (Run.move rfl) ?_    -- s35 := move t11
        refine JL.val (Run.add (c := ((k + 1 : Nat) : Int)) rfl rfl (by omega) (by omega) (by omega)) ?_    -- s36 := add t35 c:1:i64
        refine JL.val (Run.assign rfl) ?_    -- s11 := assign t36
        refine JL.nil fun a ha => ⟨k + 1, by omega, ha.sub ⟨rfl, rfl, rfl, rfl, rfl, rfl, rfl, trivial⟩, by omega, hgr.stl (fun hf => by have := hfoot _ hf; omega) _, hwall.stl _, hbel.stl (by omega) _, by simpa using hsz⟩
      | false =>
        refine JL.gskip rfl rfl ?_    -- s50 := move t11  G(12, True)
        refine JL.gskip rfl rfl ?_    -- s51 := move t2  G(12, True)
        refine JL.gskip rfl rfl ?_    -- s52 := neq t50 t51  G(12, True)
        refine JL.val ((Run.pickF rfl rfl).to (v' := .bool (wlOf bs f k)) (by simp [wlOf, List.getD, hx])) ?_    -- s53 := pick t49 t52 c:bool(false)
        refine JL.val (Run.index Yba.underlying25 c4 (by decide) rfl rfl hkn) ?_    -- s54
        refine JL.eff (Run.store c4 rfl rfl rfl hwall (by simp [wallK]; omega)) ?_    -- store
        refine JL.to (fun _ _ h => h) ?_
        rw [show 0 + k * 1 = k by omega, wallK_step]
        refine J.region ?_    -- region 5
        refine JL.val (Run.move rfl) ?_    -- s35 := move t11
        refine JL.val (Run.add (c := ((k + 1 : Nat) : Int)) rfl rfl (by omega) (by omega) (by omega)) ?_    -- s36 := add t35 c:1:i64
        refine JL.val (Run.assign rfl) ?_    -- s11 := assign t36
        refine JL.nil fun a ha => ⟨k + 1, by omega, ha.sub ⟨rfl, rfl, rfl, rfl, rfl, rfl, rfl, trivial⟩, by omega, hgr.stl (fun hf => by have := hfoot _ hf; omega) _, hwall.stl _, hbel.stl (by omega) _, by simpa using hsz⟩
    · refine JL.val ((Run.lss rfl rfl).to (bf (by omega))) ?_    -- s42 := lss t39 t41
      refine JL.val (Run.move rfl) ?_    -- s43 := move t42
      refine JL.gskip rfl rfl ?_    -- s44
      refine JL.gskip rfl rfl ?_    -- s45
      refine JL.gskip rfl rfl ?_    -- s46
      refine JL.gskip rfl rfl ?_    -- s47
      refine JL.val (Run.pickF rfl rfl) ?_    -- s48 := pick t43 t47 c:bool(false)
      refine JL.val (Run.move rfl) ?_    -- s49 := move t48
      refine JL.gskip rfl rfl ?_    -- s50
      refine JL.gskip rfl rfl ?_    -- s51
      refine JL.gskip rfl rfl ?_    -- s52
      refine JL.val ((Run.pickF rfl rfl).to (v' := .bool (wlOf bs f k)) (by simp [wlOf, List.getD, List.getElem?_eq_none (show bs.length ≤ k by omega)])) ?_    -- s53 := pick t49 t52 c:bool(false)
      refine JL.val (Run.index Yba.underlying25 c4 (by decide) rfl rfl hkn) ?_    -- s54
      refine JL.eff (Run.store c4 rfl rfl rfl hwall (by simp [wallK]; omega)) ?_    -- store
      refine JL.to (fun _ _ h => h) ?_
      rw [show 0 + k * 1 = k by omega, wallK_step]
      refine J.region ?_    -- region 5
      refine JL.val (Run.move rfl) ?_    -- s35 := move t11
      refine JL.val (Run.add (c := ((k + 1 : Nat) : Int)) rfl rfl (by omega) (by omega) (by omega)) ?_    -- s36 := add t35 c:1:i64
      refine JL.val (Run.assign rfl) ?_    -- s11 := assign t36
      refine JL.nil fun a ha => ⟨k + 1, by omega, ha.sub ⟨rfl, rfl, rfl, rfl, rfl, rfl, rfl, trivial⟩, by omega, hgr.stl (fun hf => by have := hfoot _ hf; omega) _, hwall.stl _, hbel.stl (by omega) _, by simpa using hsz⟩
  have hkn : k = n := by have := of_decide_eq_false hc; omega
  subst hkn
  clear hc hk
  refine J.exitTo (fun _ _ h => h) ?_    -- exit 0
  generalize hwl : wlOf bs f = wl at *
  have hwf : wl f = false := by rw [← hwl]; simp [wlOf]
  clear hbc
  refine J.seq ?_
  refine J.region ?_    -- region 7
  refine JL.val (Run.move rfl) ?_    -- s55 := move t0
  refine JL.val (Run.make (l := k) (c := k) el29 z3 (zs := [.int .i64 0]) rfl rfl rfl (by omega) (by omega) (by omega)) ?_    -- s56 := makeSlice 29 t55 t55
  rw [rep_one, hsz]
  refine JL.val (Run.assign rfl) ?_    -- s12 := assign t56
  refine JL.to (fun _ _ h => h) ?_
  refine J.seq ?_
  refine J.region ?_    -- region 8
  refine JL.val (Run.move rfl) ?_    -- s57 := move t0
  refine JL.val (Run.make (l := k) (c := k) el29 z3 (zs := [.int .i64 0]) rfl rfl rfl (by omega) (by omega) (by omega)) ?_    -- s58 := makeSlice 29 t57 t57
  rw [rep_one]
  have hsz4 : (w3.alloc (.cells (List.replicate k (.int .i64 0 : Value)).toArray 3)).heap.size = B + 2 := by simp [hsz]
  rw [hsz4]
  refine JL.val (Run.assign rfl) ?_    -- s13 := assign t58
  refine JL.to (fun _ _ h => h) ?_
  have hst0 : St w ((w3.alloc (.cells (List.replicate k (.int .i64 0 : Value)).toArray 3)).alloc (.cells (List.replicate k (.int .i64 0 : Value)).toArray 3)) m B (wallK k wl k) (hopK k wl 0) (hopK k wl 0) := by
    have e : ints (hopK k wl 0) = List.replicate k (.int .i64 0) := by simp [hopK, ints, List.map_const']
    have h1 := Blk.new w3 3 (List.replicate k (.int .i64 0 : Value))
    rw [hsz] at h1
    have h2 := Blk.new (w3.alloc (.cells (List.replicate k (.int .i64 0 : Value)).toArray 3)) 3 (List.replicate k (.int .i64 0 : Value))
    rw [hsz4] at h2
    exact ⟨(hgr.alloc _).alloc _, hfoot, hbase, (hwall.alloc _).alloc _, by rw [e]; exact h1.alloc _, by rw [e]; exact h2, (hbel.alloc (by omega) _).alloc (by omega) _⟩
  generalize (w3.alloc (.cells (List.replicate k (.int .i64 0 : Value)).toArray 3)).alloc (.cells (List.replicate k (.int .i64 0 : Value)).toArray 3) = w4 at *
  clear hgr hwall hbel hsz hsz4
  refine J.seq ?_
  refine J.seq ?_
  refine J.region ?_    -- region 9
  refine JL.val (Run.assign rfl) ?_    -- s14 := assign c:0:i64
  refine JL.to (fun _ _ h => h) ?_
  refine J.block ?_    -- block 2
  refine J.loop (ι := Nat) (fun i => [(0, .int .i64 (k : Int)), (1, .slice ea es.length ecap), (2, .int .i64 (f : Int)), (9, .pointer (some ⟨m.b, 0, none⟩)), (10, .slice (some ⟨B, 0, none⟩) k k), (12, .slice (some ⟨B + 1, 0, none⟩) k k), (13, .slice (some ⟨B + 2, 0, none⟩) k k), (14, .int .i64 (i : Int))])
    (fun i w' => i ≤ k ∧ St w w' m B (wallK k wl k) (hopK k wl i) (hopK k wl i)) (fun i => k - i) 0 ⟨rfl, rfl, rfl, rfl, rfl, rfl, rfl, rfl, trivial⟩ ⟨by omega, hst0⟩ ?_
  clear hst0
  rintro i w5 ⟨hi, hst⟩
  refine J.seq ?_
  refine J.seq ?_
  refine J.region ?_    -- region 10
  refine JL.val (Run.move rfl) ?_    -- s59 := move t14
  refine JL.val (Run.move rfl) ?_    -- s60 := move t0
  refine JL.val (Run.lss rfl rfl) ?_    -- s61 := lss t59 t60
  refine JL.to (fun _ _ h => h) ?_
  refine J.cond rfl (fun hc => ?_) (fun hc => ?_)    -- if t61
  · have hik : i < k := by have := of_decide_eq_true hc; omega
    clear hc
    refine J.skipTo (fun _ _ h => h) ?_
    refine J.seq ?_
    refine J.block ?_    -- block 3
    refine J.seq ?_
    refine J.region ?_    -- region 12
    refine JL.val (Run.move rfl) ?_    -- s64 := move t10
    refine JL.val (Run.move rfl) ?_    -- s65 := move t14
    refine JL.val (Run.index Yba.underlying25 c4 (by decide) rfl rfl hik) ?_    -- s66 := index 25 t64 [t65]
    refine JL.val (Run.load t4 rfl (by rw [Nat.mul_one, Nat.zero_add]; exact hst.wall.cell (wallK_get hik))) ?_    -- s67 := load 4 [t66]
    refine JL.to (fun _ _ h => h) ?_
    have hhl : (hopK k wl i).length = k := by simp [hopK]
    refine J.cond rfl (fun hc => ?_) (fun hc => ?_)    -- if t67
    · have hx : (if wl i then (7 : Int) else -1) = 7 := by simp [hc]
      refine J.seq ?_
      refine J.region ?_    -- region 13
      refine JL.val (Run.move rfl) ?_
      refine JL.val (Run.move rfl) ?_
      refine JL.val (Run.index Yba.underlying29 c3 (by decide) rfl rfl hik) ?_
      refine JL.eff (Run.store c3 rfl rfl rfl hst.hops (by simp; omega)) ?_
      refine JL.to (fun _ _ h => h) ?_
      rw [show 0 + i * 1 = i by omega, show (ints (hopK k wl i)).set i (.int .i64 7) = ints (hopK k wl (i + 1)) by rw [← hopK_step, hx]; simp [List.map_set]]
      have hst1 := hst.setH (hopK k wl (i + 1))
      generalize Fw.stl w5 (B + 1) (ints (hopK k wl (i + 1))) = w6 at *
      refine J.region ?_    -- region 14
      refine JL.val (Run.move rfl) ?_
      refine JL.val (Run.move rfl) ?_
      refine JL.val (Run.index Yba.underlying29 c3 (by decide) rfl rfl hik) ?_
      refine JL.eff (Run.store c3 rfl rfl rfl hst1.dist (by simp; omega)) ?_
      refine JL.to (fun _ _ h => h) ?_
      rw [show 0 + i * 1 = i by omega, show (ints (hopK k wl i)).set i (.int .i64 7) = ints (hopK k wl (i + 1)) by rw [← hopK_step, hx]; simp [List.map_set]]
      refine J.region ?_    -- region 11
      refine JL.val (Run.move rfl) ?_    -- s62 := move t14
      refine JL.val (Run.add (c := ((i + 1 : Nat) : Int)) rfl rfl (by omega) (by omega) (by omega)) ?_    -- s63 := add t62 c:1:i64
      refine JL.val (Run.assign rfl) ?_    -- s14 := assign t63
      refine JL.nil fun a ha => ⟨i + 1, by omega, ha.sub ⟨rfl, rfl, rfl, rfl, rfl, rfl, rfl, rfl, trivial⟩, by omega, hst1.setD _⟩
    · have hx : (if wl i then (7 : Int) else -1) = (-1) := by simp [hc]
      refine J.seq ?_
      refine J.region ?_    -- region 15
      refine JL.val (Run.move rfl) ?_
      refine JL.val (Run.move rfl) ?_
      refine JL.val (Run.index Yba.underlying29 c3 (by decide) rfl rfl hik) ?_
      refine JL.eff (Run.store c3 rfl rfl rfl hst.hops (by simp; omega)) ?_
      refine JL.to (fun _ _ h => h) ?_
      rw [show 0 + i * 1 = i by omega, show (ints (hopK k wl i)).set i (.int .i64 (-1)) = ints (hopK k wl (i + 1)) by rw [← hopK_step, hx]; simp [List.map_set]]
      have hst1 := hst.setH (hopK k wl (i + 1))
      generalize Fw.stl w5 (B + 1) (ints (hopK k wl (i + 1))) = w6 at *
      refine J.region ?_    -- region 16
      refine JL.val (Run.move rfl) ?_
      refine JL.val (Run.move rfl) ?_
      refine JL.val (Run.index Yba.underlying29 c3 (by decide) rfl rfl hik) ?_
      refine JL.eff (Run.store c3 rfl rfl rfl hst1.dist (by simp; omega)) ?_
      refine JL.to (fun _ _ h => h) ?_
      rw [show 0 + i * 1 = i by omega, show (ints (hopK k wl i)).set i (.int .i64 (-1)) = ints (hopK k wl (i + 1)) by rw [← hopK_step, hx]; simp [List.map_set]]
      refine J.region ?_    -- region 11
      refine JL.val (Run.move rfl) ?_    -- s62 := move t14
      refine JL.val (Run.add (c := ((i + 1 : Nat) : Int)) rfl rfl (by omega) (by omega) (by omega)) ?_    -- s63 := add t62 c:1:i64
      refine JL.val (Run.assign rfl) ?_    -- s14 := assign t63
      refine JL.nil fun a ha => ⟨i + 1, by omega, ha.sub ⟨rfl, rfl, rfl, rfl, rfl, rfl, rfl, rfl, trivial⟩, by omega, hst1.setD _⟩
  have hik : i = k := by have := of_decide_eq_false hc; omega
  subst hik
  clear hc hi
  rw [hopK_all] at hst
  have hh0l : (hop0 i wl).length = i := by simp [hop0]
  refine J.exitTo (fun _ _ h => h) ?_    -- exit 2
  refine J.seq ?_
  refine J.region ?_    -- region 17
  refine JL.val (Run.move rfl) ?_    -- s80 := move t13
  refine JL.val (Run.move rfl) ?_    -- s81 := move t2
  refine JL.val (Run.index Yba.underlying29 c3 (by decide) rfl rfl hf) ?_    -- s82 := index 29 t80 [t81]
  refine JL.eff (Run.store c3 rfl rfl rfl hst.dist (by simp; omega)) ?_    -- sNone := store 3 [t82] := c:0:i64
  refine JL.to (fun _ _ h => h) ?_
  rw [show 0 + f * 1 = f by omega, show (ints (hop0 i wl)).set f (.int .i64 0) = ints ((hop0 i wl).set f 0) by simp [List.map_set]]
  have hst1 := hst.setD ((hop0 i wl).set f 0)
  generalize Fw.stl w5 (B + 2) (ints ((hop0 i wl).set f 0)) = w6 at *
  have hbnd0 : Bnd 10 ((hop0 i wl).set f 0) := by
    intro x
    rw [getD_set _ _ _ _ (by omega)]
    split
    · omega
    · by_cases hx : x < i
      · rw [hop0_get hx]
        split <;> omega
      · simp [List.getD, List.getElem?_eq_none (show (hop0 i wl).length ≤ x by omega)]
  have hmdl : (md i es).length = es.length := by simp [md]
  refine J.seq ?_
  refine J.seq ?_
  refine J.region ?_    -- region 18
  refine JL.val (Run.assign rfl) ?_    -- s15 := assign c:0:i64
  refine JL.to (fun _ _ h => h) ?_
  refine J.block ?_    -- block 4
  refine J.loop (ι := Nat) (fun r => [(0, .int .i64 (i : Int)), (1, .slice ea es.length ecap), (2, .int .i64 (f : Int)), (9, .pointer (some ⟨m.b, 0, none⟩)), (10, .slice (some ⟨B, 0, none⟩) i i), (12, .slice (some ⟨B + 1, 0, none⟩) i i), (13, .slice (some ⟨B + 2, 0, none⟩) i i), (15, .int .i64 (r : Int))])
    (fun r w' => r ≤ i ∧ (rounds wl (md i es) r ((hop0 i wl).set f 0)).length = i ∧ Bnd (10 + 2048 * (r : Int)) (rounds wl (md i es) r ((hop0 i wl).set f 0)) ∧ St w w' m B (wallK i wl i) (hop0 i wl) (rounds wl (md i es) r ((hop0 i wl).set f 0))) (fun r => i - r) 0 ⟨rfl, rfl, rfl, rfl, rfl, rfl, rfl, rfl, trivial⟩
    ⟨by omega, by simp [rounds, hh0l], by simpa [rounds] using hbnd0, hst1⟩ ?_
  clear hst hst1 hbnd0
  rintro r w7 ⟨hr, hDl, hbnd, hst⟩
  refine J.seq ?_
  refine J.seq ?_
  refine J.region ?_    -- region 19
  refine JL.val (Run.move rfl) ?_    -- s83 := move t15
  refine JL.val (Run.move rfl) ?_    -- s84 := move t0
  refine JL.val (Run.lss rfl rfl) ?_    -- s85 := lss t83 t84
  refine JL.to (fun _ _ h => h) ?_
  refine J.cond rfl (fun hc => ?_) (fun hc => ?_)    -- if t85
  · have hri : r < i := by have := of_decide_eq_true hc; omega
    clear hc
    refine J.skipTo (fun _ _ h => h) ?_
    refine J.seq ?_
    refine J.block ?_    -- block 5
    refine J.seq ?_
    refine J.region ?_    -- region 21
    refine JL.val (Run.move rfl) ?_    -- s88 := move t1
    refine JL.val (Run.len Yba.underlying22 rfl) ?_    -- s89 := builtin Builtin.len(t88) [22]
    refine JL.val (Run.move rfl) ?_    -- s90 := move c:0:i64
    refine JL.to (fun _ _ h => h) ?_
    refine J.block ?_    -- block 6
    generalize hDr : rounds wl (md i es) r ((hop0 i wl).set f 0) = Dr at *
    refine J.loop (ι := Nat × List Int) (fun j => [(0, .int .i64 (i : Int)), (1, .slice ea es.length ecap), (2, .int .i64 (f : Int)), (9, .pointer (some ⟨m.b, 0, none⟩)), (10, .slice (some ⟨B, 0, none⟩) i i), (12, .slice (some ⟨B + 1, 0, none⟩) i i), (13, .slice (some ⟨B + 2, 0, none⟩) i i), (15, .int .i64 (r : Int)), (88, .slice ea es.length ecap), (89, .int .i64 (es.length : Int)), (90, .int .i64 (j.1 : Int))])
      (fun j w' => j.1 ≤ es.length ∧ j.2 = ((md i es).take j.1).foldl (relax wl) Dr ∧ j.2.length = i ∧ Bnd (10 + 2048 * (r : Int) + 2 * (j.1 : Int)) j.2 ∧ St w w' m B (wallK i wl i) (hop0 i wl) j.2) (fun j => es.length - j.1) (0, Dr) ⟨rfl, rfl, rfl, rfl, rfl, rfl, rfl, rfl, rfl, rfl, rfl, trivial⟩
      ⟨by omega, by simp, hDl, by simpa using hbnd, hst⟩ ?_
    clear hst hbnd hDl
    rintro ⟨j, D⟩ w8 ⟨hj, hD, hDl, hbnd, hst⟩
    simp only at hj hD hDl hbnd hst
    refine J.seq ?_
    refine J.region ?_    -- region 22
    refine JL.val (Run.lss rfl rfl) ?_    -- s91 := lss t90 t89
    refine JL.to (fun _ _ h => h) ?_
    refine J.seq ?_
    refine J.cond rfl (fun hc => ?_) (fun hc => ?_)    -- if t91
    · have hjl : j < es.length := by have := of_decide_eq_true hc; omega
      clear hc
      refine J.skipTo (fun _ _ h => h) ?_
      obtain ⟨⟨x, y⟩, he⟩ : ∃ e, es[j]? = some e := ⟨es[j], List.getElem?_eq_getElem hjl⟩
      obtain ⟨hx, hy, eb, eo, hea, hcx, hcy⟩ := hec j _ he
      subst hea
      simp only at hx hy hcx hcy
      have hcx2 := hst.bel.cell1 hcx
      have hcy2 := hst.bel.cell1 hcy
      have hmd : (md i es)[j]? = some (x % i, y % i) := by simp [md, he]
      have hxn : x % i < i := Nat.mod_lt _ hn0
      have hyn : y % i < i := Nat.mod_lt _ hn0
      refine J.seq ?_
      refine J.block ?_    -- block 7
      refine J.seq ?_
      refine J.region ?_    -- region 23
      refine JL.val (Run.index Yba.underlying22 c30 (by decide) rfl rfl hjl) ?_    -- s92 := index 22 t88 [t90]
      refine JL.val (Run.loadA (cs := [.int .u8 (x : Int), .int .u8 (y : Int)]) ta30 rfl ?_) ?_    -- s93 := load 30 [t92]
      · intro q u hq
        match q, hq with
        | 0, hq => simp at hq; rw [← hq]; exact hcx2
        | 1, hq => simp at hq; rw [← hq]; exact hcy2
        | q + 2, hq => simp at hq
      refine JL.val (Run.alloc (l := [.int .u8 0, .int .u8 0]) z30 rfl) ?_    -- s17 := alloc 30
      refine JL.eff (Run.storeNew (cs := [.int .u8 (x : Int), .int .u8 (y : Int)]) c30 (by simp) rfl rfl (by simp [Value.oneCell']) rfl) ?_    -- sNone := store 30 [t17] := t93
      refine JL.to (fun _ _ h => h) ?_
      have hnew : Blk (w8.alloc (.cells [.int .u8 (x : Int), .int .u8 (y : Int)].toArray 30)) w8.heap.size 30 [.int .u8 (x : Int), .int .u8 (y : Int)] := Blk.new _ _ _
      have hst9 := hst.alloc (.cells [.int .u8 (x : Int), .int .u8 (y : Int)].toArray 30)
      generalize w8.alloc (.cells [.int .u8 (x : Int), .int .u8 (y : Int)].toArray 30) = w9 at *
      refine J.seq ?_
      refine J.region ?_    -- region 24
      refine JL.val (Run.indexArr Yba.underlying30 c5 (by decide) rfl rfl (by decide) (by decide)) ?_    -- s94 := index 30 t17 [c:0:i64]
      refine JL.val (Run.load t5 rfl (hnew.cell rfl)) ?_    -- s95 := load 5 [t94]
      refine JL.val (Run.conv64 Yba.underlying3 ⟨_, Yba.underlying5⟩ rfl (by omega) (by omega)) ?_    -- s96 := conv 5>3 t95
      refine JL.val (Run.move rfl) ?_    -- s97 := move t0
      refine JL.val (Run.remN (b := i) rfl rfl hn0) ?_    -- s98 := rem t96 t97
      refine JL.val (Run.assign rfl) ?_    -- s18 := assign t98
      refine JL.to (fun _ _ h => h) ?_
      refine J.seq ?_
      refine J.region ?_    -- region 25
      refine JL.val (Run.indexArr Yba.underlying30 c5 (by decide) rfl rfl (by decide) (by decide)) ?_    -- s99 := index 30 t17 [c:1:i64]
      refine JL.val (Run.load t5 rfl (hnew.cell rfl)) ?_    -- s100 := load 5 [t99]
      refine JL.val (Run.conv64 Yba.underlying3 ⟨_, Yba.underlying5⟩ rfl (by omega) (by omega)) ?_    -- s101 := conv 5>3 t100
      refine JL.val (Run.move rfl) ?_    -- s102 := move t0
      refine JL.val (Run.remN (b := i) rfl rfl hn0) ?_    -- s103 := rem t101 t102
      refine JL.val (Run.assign rfl) ?_    -- s19 := assign t103
      refine JL.to (fun _ _ h => h) ?_
      have hnext : ((md i es).take (j + 1)).foldl (relax wl) Dr = relax wl D (x % i, y % i) := by rw [relax_take hmd, ← hD]
      clear hnew hcx2 hcy2 hcx hcy hst hmd hD he
      generalize x % i = a at *
      generalize y % i = b at *
      refine J.mid (ι := Unit) (fun _ => [(0, .int .i64 (i : Int)), (1, .slice (some ⟨eb, eo, none⟩) es.length ecap), (2, .int .i64 (f : Int)), (9, .pointer (some ⟨m.b, 0, none⟩)), (10, .slice (some ⟨B, 0, none⟩) i i), (12, .slice (some ⟨B + 1, 0, none⟩) i i), (13, .slice (some ⟨B + 2, 0, none⟩) i i), (15, .int .i64 (r : Int)), (88, .slice (some ⟨eb, eo, none⟩) es.length ecap), (89, .int .i64 (es.length : Int)), (90, .int .i64 (j : Int))] ++ [(18, .int .i64 (a : Int)), (19, .int .i64 (b : Int))])
        (fun _ w' => w' = w9 ∧ ¬ (a = b ∨ wl a = true ∨ wl b = true)) ?_ ?_
      · refine J.mid (ι := Unit) (fun _ => [(0, .int .i64 (i : Int)), (1, .slice (some ⟨eb, eo, none⟩) es.length ecap), (2, .int .i64 (f : Int)), (9, .pointer (some ⟨m.b, 0, none⟩)), (10, .slice (some ⟨B, 0, none⟩) i i), (12, .slice (some ⟨B + 1, 0, none⟩) i i), (13, .slice (some ⟨B + 2, 0, none⟩) i i), (15, .int .i64 (r : Int)), (88, .slice (some ⟨eb, eo, none⟩) es.length ecap), (89, .int .i64 (es.length : Int)), (90, .int .i64 (j : Int))] ++ [(18, .int .i64 (a : Int)), (19, .int .i64 (b : Int)), (118, .bool (decide (a = b ∨ wl a = true ∨ wl b = true)))])
          (fun _ w' => w' = w9) ?_ ?_
        · refine J.region ?_    -- region 26
          refine JL.val (Run.move rfl) ?_    -- s104 := move t18
          refine JL.val (Run.move rfl) ?_    -- s105 := move t19
          by_cases hab : a = b
          · refine JL.val ((Run.eql rfl rfl).to (bt (by omega))) ?_
            refine JL.val (Run.move rfl) ?_
            refine JL.gskip rfl rfl ?_
            refine JL.gskip rfl rfl ?_
            refine JL.gskip rfl rfl ?_
            refine JL.gskip rfl rfl ?_
            refine JL.val (Run.pickT rfl rfl) ?_
            refine JL.val (Run.move rfl) ?_
            refine JL.gskip rfl rfl ?_
            refine JL.gskip rfl rfl ?_
            refine JL.gskip rfl rfl ?_
            refine JL.gskip rfl rfl ?_
            refine JL.val ((Run.pickT rfl rfl).to (v' := .bool (decide (a = b ∨ wl a = true ∨ wl b = true))) (by simp [hab])) ?_
            refine JL.nil fun ac ha => ⟨(), ha.sub ⟨rfl, rfl, rfl, rfl, rfl, rfl, rfl, rfl, rfl, rfl, rfl, rfl, rfl, rfl, trivial⟩, rfl⟩
          · refine JL.val ((Run.eql rfl rfl).to (bf (by omega))) ?_
            refine JL.val (Run.move rfl) ?_
            refine JL.gval rfl rfl (Run.move rfl) ?_
            refine JL.gval rfl rfl (Run.move rfl) ?_
            refine JL.gval rfl rfl (Run.index Yba.underlying25 c4 (by decide) rfl rfl hxn) ?_
            refine JL.gval rfl rfl (Run.load t4 rfl (by rw [Nat.mul_one, Nat.zero_add]; exact hst9.wall.cell (wallK_get hxn))) ?_
            refine JL.val (Run.pickF rfl rfl) ?_
            refine JL.val (Run.move rfl) ?_
            cases hwa : wl a with
            | true =>
              refine JL.gskip rfl rfl ?_
              refine JL.gskip rfl rfl ?_
              refine JL.gskip rfl rfl ?_
              refine JL.gskip rfl rfl ?_
              refine JL.val ((Run.pickT rfl rfl).to (v' := .bool (decide (a = b ∨ true = true ∨ wl b = true))) (by simp)) ?_
              refine JL.nil fun ac ha => ⟨(), ha.sub ⟨rfl, rfl, rfl, rfl, rfl, rfl, rfl, rfl, rfl, rfl, rfl, rfl, rfl, rfl, trivial⟩, rfl⟩
            | false =>
              refine JL.gval rfl rfl (Run.move rfl) ?_
              refine JL.gval rfl rfl (Run.move rfl) ?_
              refine JL.gval rfl rfl (Run.index Yba.underlying25 c4 (by decide) rfl rfl hyn) ?_
              refine JL.gval rfl rfl (Run.load t4 rfl (by rw [Nat.mul_one, Nat.zero_add]; exact hst9.wall.cell (wallK_get hyn))) ?_
              refine JL.val ((Run.pickF rfl rfl).to (v' := .bool (decide (a = b ∨ false = true ∨ wl b = true))) (by simp [hab])) ?_
              refine JL.nil fun ac ha => ⟨(), ha.sub ⟨rfl, rfl, rfl, rfl, rfl, rfl, rfl, rfl, rfl, rfl, rfl, rfl, rfl, rfl, trivial⟩, rfl⟩
        · rintro _ _ rfl
          refine J.cond rfl (fun hc => ?_) (fun hc => ?_)    -- if t118
          · have hc' : a = b ∨ wl a = true ∨ wl b = true := of_decide_eq_true hc
            refine J.exitTo (fun _ _ h => h) ?_    -- exit 7
            refine J.region ?_    -- region 31
            refine JL.val (Run.add (c := ((j + 1 : Nat) : Int)) rfl rfl (by omega) (by omega) (by omega)) ?_    -- s183 := add t90 c:1:i64
            refine JL.val (Run.move rfl) ?_    -- s90 := move t183
            refine JL.nil fun ac ha => ⟨(j + 1, D), by simp only; omega, ha.sub ⟨rfl, rfl, rfl, rfl, rfl, rfl, rfl, rfl, rfl, rfl, rfl, trivial⟩, by simp only; omega, ?_, hDl, fun u => by have := hbnd u; simp only; omega, hst9⟩
            simp only
            rw [hnext, relax, if_pos hc']
          · refine J.skip fun ac ha => ⟨(), ha.sub ⟨rfl, rfl, rfl, rfl, rfl, rfl, rfl, rfl, rfl, rfl, rfl, rfl, rfl, trivial⟩, rfl, of_decide_eq_false hc⟩
      · rintro _ w10 ⟨rfl, hnc⟩
        have hnext2 : ((md i es).take (j + 1)).foldl (relax wl) Dr = half (half D a b) b a := by rw [hnext, relax, if_neg hnc]
        refine J.mid (ι := Unit) (fun _ => [(0, .int .i64 (i : Int)), (1, .slice (some ⟨eb, eo, none⟩) es.length ecap), (2, .int .i64 (f : Int)), (9, .pointer (some ⟨m.b, 0, none⟩)), (10, .slice (some ⟨B, 0, none⟩) i i), (12, .slice (some ⟨B + 1, 0, none⟩) i i), (13, .slice (some ⟨B + 2, 0, none⟩) i i), (15, .int .i64 (r : Int)), (88, .slice (some ⟨eb, eo, none⟩) es.length ecap), (89, .int .i64 (es.length : Int)), (90, .int .i64 (j : Int))] ++ [(18, .int .i64 (a : Int)), (19, .int .i64 (b : Int))])
          (fun _ w' => St w w' m B (wallK i wl i) (hop0 i wl) (half D a b)) ?_ ?_
        · have hA := ints_get (D := D) (v := a) (by omega)
          have hB2 := ints_get (D := D) (v := b) (by omega)
          have hbA := hbnd a
          refine J.mid (ι := Unit) (fun _ => [(0, .int .i64 (i : Int)), (1, .slice (some ⟨eb, eo, none⟩) es.length ecap), (2, .int .i64 (f : Int)), (9, .pointer (some ⟨m.b, 0, none⟩)), (10, .slice (some ⟨B, 0, none⟩) i i), (12, .slice (some ⟨B + 1, 0, none⟩) i i), (13, .slice (some ⟨B + 2, 0, none⟩) i i), (15, .int .i64 (r : Int)), (88, .slice (some ⟨eb, eo, none⟩) es.length ecap), (89, .int .i64 (es.length : Int)), (90, .int .i64 (j : Int))] ++ [(18, .int .i64 (a : Int)), (19, .int .i64 (b : Int)), (142, .bool (decide (0 ≤ D.getD a 0 ∧ (D.getD b 0 < 0 ∨ D.getD a 0 + 1 < D.getD b 0))))])
            (fun _ w' => w' = w10.drew) ?_ ?_
          · have hS : Blk w10.drew (B + 2) 3 (ints D) := hst9.dist
            refine J.draw (fun x => Blk x (B + 2) 3 (ints D)) 24 [(0, true), (1, true), (2, true), (3, true), (4, true), (5, true), (6, true), (7, true), (8, true), (9, true), (10, true), (11, true), (12, true), (13, true), (14, true), (15, true), (16, true), (17, true), (18, true), (19, true), (20, true), (21, true), (22, true), (23, true)] (by kernel_rfl) (by kernel_rfl) ?_
            refine JS.take (i := 0) rfl hS (fun w' hw' => Run.move rfl) ?_
            refine JS.take (i := 1) rfl hS (fun w' hw' => Run.move rfl) ?_
            refine JS.take (i := 2) rfl hS (fun w' hw' => Run.index Yba.underlying29 c3 (by decide) rfl rfl hxn) ?_
            refine JS.take (i := 3) rfl hS (fun w' hw' => Run.load t3 rfl (by rw [Nat.mul_one, Nat.zero_add]; exact hw'.cell hA)) ?_
            by_cases h1 : 0 ≤ D.getD a 0
            · refine JS.take (i := 4) rfl hS (fun w' hw' => (Run.geq rfl rfl).to (bt h1)) ?_
              refine JS.take (i := 5) rfl hS (fun w' hw' => Run.move rfl) ?_
              refine JS.gtake (i := 6) rfl rfl rfl hS (fun w' hw' => Run.move rfl) ?_
              refine JS.gtake (i := 7) rfl rfl rfl hS (fun w' hw' => Run.move rfl) ?_
              refine JS.gtake (i := 8) rfl rfl rfl hS (fun w' hw' => Run.index Yba.underlying29 c3 (by decide) rfl rfl hyn) ?_
              refine JS.gtake (i := 9) rfl rfl rfl hS (fun w' hw' => Run.load t3 rfl (by rw [Nat.mul_one, Nat.zero_add]; exact hw'.cell hB2)) ?_
              by_cases h2 : D.getD b 0 < 0
              · refine JS.gtake (i := 10) rfl rfl rfl hS (fun w' hw' => (Run.lss rfl rfl).to (bt h2)) ?_
                refine JS.gtake (i := 11) rfl rfl rfl hS (fun w' hw' => Run.move rfl) ?_
                refine JS.gskip (i := 12) rfl rfl rfl hS ?_
                refine JS.gskip (i := 13) rfl rfl rfl hS ?_
                refine JS.gskip (i := 14) rfl rfl rfl hS ?_
                refine JS.gskip (i := 15) rfl rfl rfl hS ?_
                refine JS.gskip (i := 16) rfl rfl rfl hS ?_
                refine JS.gskip (i := 17) rfl rfl rfl hS ?_
                refine JS.gskip (i := 18) rfl rfl rfl hS ?_
                refine JS.gskip (i := 19) rfl rfl rfl hS ?_
                refine JS.gskip (i := 20) rfl rfl rfl hS ?_
                refine JS.gskip (i := 21) rfl rfl rfl hS ?_
                refine JS.gtake (i := 22) rfl rfl rfl hS (fun w' hw' => Run.pickT rfl rfl) ?_
                refine JS.take (i := 23) rfl hS (fun w' hw' => (Run.pickT rfl rfl).to (v' := .bool (decide (0 ≤ D.getD a 0 ∧ (D.getD b 0 < 0 ∨ D.getD a 0 + 1 < D.getD b 0)))) (by rw [decide_eq_true (show (0 ≤ D.getD a 0 ∧ (D.getD b 0 < 0 ∨ D.getD a 0 + 1 < D.getD b 0)) from ⟨h1, .inl h2⟩)])) ?_
                refine JS.nil fun ac ha => ⟨(), ha.sub ⟨rfl, rfl, rfl, rfl, rfl, rfl, rfl, rfl, rfl, rfl, rfl, rfl, rfl, rfl, trivial⟩, rfl⟩
              · refine JS.gtake (i := 10) rfl rfl rfl hS (fun w' hw' => (Run.lss rfl rfl).to (bf h2)) ?_
                refine JS.gtake (i := 11) rfl rfl rfl hS (fun w' hw' => Run.move rfl) ?_
                refine JS.gtake (i := 12) rfl rfl rfl hS (fun w' hw' => Run.move rfl) ?_
                refine JS.gtake (i := 13) rfl rfl rfl hS (fun w' hw' => Run.move rfl) ?_
                refine JS.gtake (i := 14) rfl rfl rfl hS (fun w' hw' => Run.index Yba.underlying29 c3 (by decide) rfl rfl hxn) ?_
                refine JS.gtake (i := 15) rfl rfl rfl hS (fun w' hw' => Run.load t3 rfl (by rw [Nat.mul_one, Nat.zero_add]; exact hw'.cell hA)) ?_
                refine JS.gtake (i := 16) rfl rfl rfl hS (fun w' hw' => Run.add (c := D.getD a 0 + 1) rfl rfl (by omega) (by omega) (by omega)) ?_
                refine JS.gtake (i := 17) rfl rfl rfl hS (fun w' hw' => Run.move rfl) ?_
                refine JS.gtake (i := 18) rfl rfl rfl hS (fun w' hw' => Run.move rfl) ?_
                refine JS.gtake (i := 19) rfl rfl rfl hS (fun w' hw' => Run.index Yba.underlying29 c3 (by decide) rfl rfl hyn) ?_
                refine JS.gtake (i := 20) rfl rfl rfl hS (fun w' hw' => Run.load t3 rfl (by rw [Nat.mul_one, Nat.zero_add]; exact hw'.cell hB2)) ?_
                refine JS.gtake (i := 21) rfl rfl rfl hS (fun w' hw' => Run.lss rfl rfl) ?_
                refine JS.gtake (i := 22) rfl rfl rfl hS (fun w' hw' => Run.pickF rfl rfl) ?_
                refine JS.take (i := 23) rfl hS (fun w' hw' => (Run.pickT rfl rfl).to (v' := .bool (decide (0 ≤ D.getD a 0 ∧ (D.getD b 0 < 0 ∨ D.getD a 0 + 1 < D.getD b 0)))) (bd (decide_eq_decide.2 ⟨fun h => ⟨h1, .inr h⟩, fun h => h.2.resolve_left h2⟩))) ?_
                refine JS.nil fun ac ha => ⟨(), ha.sub ⟨rfl, rfl, rfl, rfl, rfl, rfl, rfl, rfl, rfl, rfl, rfl, rfl, rfl, rfl, trivial⟩, rfl⟩
            · refine JS.take (i := 4) rfl hS (fun w' hw' => (Run.geq rfl rfl).to (bf h1)) ?_
              refine JS.take (i := 5) rfl hS (fun w' hw' => Run.move rfl) ?_
              refine JS.gskip (i := 6) rfl rfl rfl hS ?_
              refine JS.gskip (i := 7) rfl rfl rfl hS ?_
              refine JS.gskip (i := 8) rfl rfl rfl hS ?_
              refine JS.gskip (i := 9) rfl rfl rfl hS ?_
              refine JS.gskip (i := 10) rfl rfl rfl hS ?_
              refine JS.gskip (i := 11) rfl rfl rfl hS ?_
              refine JS.gskipU (i := 12) rfl rfl rfl hS ?_
              refine JS.gskipU (i := 13) rfl rfl rfl hS ?_
              refine JS.gskipU (i := 14) rfl rfl rfl hS ?_
              refine JS.gskipU (i := 15) rfl rfl rfl hS ?_
              refine JS.gskipU (i := 16) rfl rfl rfl hS ?_
              refine JS.gskipU (i := 17) rfl rfl rfl hS ?_
              refine JS.gskipU (i := 18) rfl rfl rfl hS ?_
              refine JS.gskipU (i := 19) rfl rfl rfl hS ?_
              refine JS.gskipU (i := 20) rfl rfl rfl hS ?_
              refine JS.gskipU (i := 21) rfl rfl rfl hS ?_
              refine JS.gskip (i := 22) rfl rfl rfl hS ?_
              refine JS.take (i := 23) rfl hS (fun w' hw' => (Run.pickF rfl rfl).to (v' := .bool (decide (0 ≤ D.getD a 0 ∧ (D.getD b 0 < 0 ∨ D.getD a 0 + 1 < D.getD b 0)))) (by rw [decide_eq_false (fun h => h1 h.1)])) ?_
              refine JS.nil fun ac ha => ⟨(), ha.sub ⟨rfl, rfl, rfl, rfl, rfl, rfl, rfl, rfl, rfl, rfl, rfl, rfl, rfl, rfl, trivial⟩, rfl⟩
          · rintro _ _ rfl
            refine J.cond rfl (fun hc => ?_) (fun hc => ?_)
            · have hc' : (0 ≤ D.getD a 0 ∧ (D.getD b 0 < 0 ∨ D.getD a 0 + 1 < D.getD b 0)) := of_decide_eq_true hc
              have hh : half D a b = D.set b (D.getD a 0 + 1) := by rw [half, if_pos hc']
              have hS : Blk w10.drew (B + 2) 3 (ints D) := hst9.dist
              refine J.region ?_
              refine JL.val (Run.move rfl) ?_
              refine JL.val (Run.move rfl) ?_
              refine JL.val (Run.move rfl) ?_
              refine JL.val (Run.move rfl) ?_
              refine JL.val (Run.index Yba.underlying29 c3 (by decide) rfl rfl hxn) ?_
              refine JL.val (Run.load t3 rfl (by rw [Nat.mul_one, Nat.zero_add]; exact hS.cell hA)) ?_
              refine JL.val (Run.add (c := D.getD a 0 + 1) rfl rfl (by omega) (by omega) (by omega)) ?_
              refine JL.val (Run.index Yba.underlying29 c3 (by decide) rfl rfl hyn) ?_
              refine JL.eff (Run.store c3 rfl rfl rfl hS (by simp; omega)) ?_
              rw [show 0 + b * 1 = b by omega, show (ints D).set b (.int .i64 (D.getD a 0 + 1)) = ints (half D a b) by rw [hh]; simp [List.map_set]]
              have hst12 := hst9.drew.setD (half D a b)
              refine JL.nil fun ac ha => ⟨(), ha.sub ⟨rfl, rfl, rfl, rfl, rfl, rfl, rfl, rfl, rfl, rfl, rfl, rfl, rfl, trivial⟩, hst12⟩
            · have hc' : ¬ (0 ≤ D.getD a 0 ∧ (D.getD b 0 < 0 ∨ D.getD a 0 + 1 < D.getD b 0)) := of_decide_eq_false hc
              have hh : half D a b = D := by rw [half, if_neg hc']
              have hst12 : St w w10.drew m B (wallK i wl i) (hop0 i wl) (half D a b) := by rw [hh]; exact hst9.drew
              refine J.skip fun ac ha => ⟨(), ha.sub ⟨rfl, rfl, rfl, rfl, rfl, rfl, rfl, rfl, rfl, rfl, rfl, rfl, rfl, trivial⟩, hst12⟩
        · rintro _ w11 hst11
          clear hst9
          have hbnd1 := half_bnd hbnd a b
          have hD1l : (half D a b).length = i := by rw [half_len]; exact hDl
          generalize half D a b = D1 at *
          have hA := ints_get (D := D1) (v := b) (by omega)
          have hB2 := ints_get (D := D1) (v := a) (by omega)
          have hbA := hbnd1 b
          refine J.mid (ι := Unit) (fun _ => [(0, .int .i64 (i : Int)), (1, .slice (some ⟨eb, eo, none⟩) es.length ecap), (2, .int .i64 (f : Int)), (9, .pointer (some ⟨m.b, 0, none⟩)), (10, .slice (some ⟨B, 0, none⟩) i i), (12, .slice (some ⟨B + 1, 0, none⟩) i i), (13, .slice (some ⟨B + 2, 0, none⟩) i i), (15, .int .i64 (r : Int)), (88, .slice (some ⟨eb, eo, none⟩) es.length ecap), (89, .int .i64 (es.length : Int)), (90, .int .i64 (j : Int))] ++ [(18, .int .i64 (a : Int)), (19, .int .i64 (b : Int)), (174, .bool (decide (0 ≤ D1.getD b 0 ∧ (D1.getD a 0 < 0 ∨ D1.getD b 0 + 1 < D1.getD a 0))))])
            (fun _ w' => w' = w11.drew) ?_ ?_
          · have hS : Blk w11.drew (B + 2) 3 (ints D1) := hst11.dist
            refine J.draw (fun x => Blk x (B + 2) 3 (ints D1)) 24 [(0, true), (1, true), (2, true), (3, true), (4, true), (5, true), (6, true), (7, true), (8, true), (9, true), (10, true), (11, true), (12, true), (13, true), (14, true), (15, true), (16, true), (17, true), (18, true), (19, true), (20, true), (21, true), (22, true), (23, true)] (by kernel_rfl) (by kernel_rfl) ?_
            refine JS.take (i := 0) rfl hS (fun w' hw' => Run.move rfl) ?_
            refine JS.take (i := 1) rfl hS (fun w' hw' => Run.move rfl) ?_
            refine JS.take (i := 2) rfl hS (fun w' hw' => Run.index Yba.underlying29 c3 (by decide) rfl rfl hyn) ?_
            refine JS.take (i := 3) rfl hS (fun w' hw' => Run.load t3 rfl (by rw [Nat.mul_one, Nat.zero_add]; exact hw'.cell hA)) ?_
            by_cases h1 : 0 ≤ D1.getD b 0
            · refine JS.take (i := 4) rfl hS (fun w' hw' => (Run.geq rfl rfl).to (bt h1)) ?_
              refine JS.take (i := 5) rfl hS (fun w' hw' => Run.move rfl) ?_
              refine JS.gtake (i := 6) rfl rfl rfl hS (fun w' hw' => Run.move rfl) ?_
              refine JS.gtake (i := 7) rfl rfl rfl hS (fun w' hw' => Run.move rfl) ?_
              refine JS.gtake (i := 8) rfl rfl rfl hS (fun w' hw' => Run.index Yba.underlying29 c3 (by decide) rfl rfl hxn) ?_
              refine JS.gtake (i := 9) rfl rfl rfl hS (fun w' hw' => Run.load t3 rfl (by rw [Nat.mul_one, Nat.zero_add]; exact hw'.cell hB2)) ?_
              by_cases h2 : D1.getD a 0 < 0
              · refine JS.gtake (i := 10) rfl rfl rfl hS (fun w' hw' => (Run.lss rfl rfl).to (bt h2)) ?_
                refine JS.gtake (i := 11) rfl rfl rfl hS (fun w' hw' => Run.move rfl) ?_
                refine JS.gskip (i := 12) rfl rfl rfl hS ?_
                refine JS.gskip (i := 13) rfl rfl rfl hS ?_
                refine JS.gskip (i := 14) rfl rfl rfl hS ?_
                refine JS.gskip (i := 15) rfl rfl rfl hS ?_
                refine JS.gskip (i := 16) rfl rfl rfl hS ?_
                refine JS.gskip (i := 17) rfl rfl rfl hS ?_
                refine JS.gskip (i := 18) rfl rfl rfl hS ?_
                refine JS.gskip (i := 19) rfl rfl rfl hS ?_
                refine JS.gskip (i := 20) rfl rfl rfl hS ?_
                refine JS.gskip (i := 21) rfl rfl rfl hS ?_
                refine JS.gtake (i := 22) rfl rfl rfl hS (fun w' hw' => Run.pickT rfl rfl) ?_
                refine JS.take (i := 23) rfl hS (fun w' hw' => (Run.pickT rfl rfl).to (v' := .bool (decide (0 ≤ D1.getD b 0 ∧ (D1.getD a 0 < 0 ∨ D1.getD b 0 + 1 < D1.getD a 0)))) (by rw [decide_eq_true (show (0 ≤ D1.getD b 0 ∧ (D1.getD a 0 < 0 ∨ D1.getD b 0 + 1 < D1.getD a 0)) from ⟨h1, .inl h2⟩)])) ?_
                refine JS.nil fun ac ha => ⟨(), ha.sub ⟨rfl, rfl, rfl, rfl, rfl, rfl, rfl, rfl, rfl, rfl, rfl, rfl, rfl, rfl, trivial⟩, rfl⟩
              · refine JS.gtake (i := 10) rfl rfl rfl hS (fun w' hw' => (Run.lss rfl rfl).to (bf h2)) ?_
                refine JS.gtake (i := 11) rfl rfl rfl hS (fun w' hw' => Run.move rfl) ?_
                refine JS.gtake (i := 12) rfl rfl rfl hS (fun w' hw' => Run.move rfl) ?_
                refine JS.gtake (i := 13) rfl rfl rfl hS (fun w' hw' => Run.move rfl) ?_
                refine JS.gtake (i := 14) rfl rfl rfl hS (fun w' hw' => Run.index Yba.underlying29 c3 (by decide) rfl rfl hyn) ?_
                refine JS.gtake (i := 15) rfl rfl rfl hS (fun w' hw' => Run.load t3 rfl (by rw [Nat.mul_one, Nat.zero_add]; exact hw'.cell hA)) ?_
                refine JS.gtake (i := 16) rfl rfl rfl hS (fun w' hw' => Run.add (c := D1.getD b 0 + 1) rfl rfl (by omega) (by omega) (by omega)) ?_
                refine JS.gtake (i := 17) rfl rfl rfl hS (fun w' hw' => Run.move rfl) ?_
                refine JS.gtake (i := 18) rfl rfl rfl hS (fun w' hw' => Run.move rfl) ?_
                refine JS.gtake (i := 19) rfl rfl rfl hS (fun w' hw' => Run.index Yba.underlying29 c3 (by decide) rfl rfl hxn) ?_
                refine JS.gtake (i := 20) rfl rfl rfl hS (fun w' hw' => Run.load t3 rfl (by rw [Nat.mul_one, Nat.zero_add]; exact hw'.cell hB2)) ?_
                refine JS.gtake (i := 21) rfl rfl rfl hS (fun w' hw' => Run.lss rfl rfl) ?_
                refine JS.gtake (i := 22) rfl rfl rfl hS (fun w' hw' => Run.pickF rfl rfl) ?_
                refine JS.take (i := 23) rfl hS (fun w' hw' => (Run.pickT rfl rfl).to (v' := .bool (decide (0 ≤ D1.getD b 0 ∧ (D1.getD a 0 < 0 ∨ D1.getD b 0 + 1 < D1.getD a 0)))) (bd (decide_eq_decide.2 ⟨fun h => ⟨h1, .inr h⟩, fun h => h.2.resolve_left h2⟩))) ?_
                refine JS.nil fun ac ha => ⟨(), ha.sub ⟨rfl, rfl, rfl, rfl, rfl, rfl, rfl, rfl, rfl, rfl, rfl, rfl, rfl, rfl, trivial⟩, rfl⟩
            · refine JS.take (i := 4) rfl hS (fun w' hw' => (Run.geq rfl rfl).to (bf h1)) ?_
              refine JS.take (i := 5) rfl hS (fun w' hw' => Run.move rfl) ?_
              refine JS.gskip (i := 6) rfl rfl rfl hS ?_
              refine JS.gskip (i := 7) rfl rfl rfl hS ?_
              refine JS.gskip (i := 8) rfl rfl rfl hS ?_
              refine JS.gskip (i := 9) rfl rfl rfl hS ?_
              refine JS.gskip (i := 10) rfl rfl rfl hS ?_
              refine JS.gskip (i := 11) rfl rfl rfl hS ?_
              refine JS.gskipU (i := 12) rfl rfl rfl hS ?_
              refine JS.gskipU (i := 13) rfl rfl rfl hS ?_
              refine JS.gskipU (i := 14) rfl rfl rfl hS ?_
              refine JS.gskipU (i := 15) rfl rfl rfl hS ?_
              refine JS.gskipU (i := 16) rfl rfl rfl hS ?_
              refine JS.gskipU (i := 17) rfl rfl rfl hS ?_
              refine JS.gskipU (i := 18) rfl rfl rfl hS ?_
              refine JS.gskipU (i := 19) rfl rfl rfl hS ?_
              refine JS.gskipU (i := 20) rfl rfl rfl hS ?_
              refine JS.gskipU (i := 21) rfl rfl rfl hS ?_
              refine JS.gskip (i := 22) rfl rfl rfl hS ?_
              refine JS.take (i := 23) rfl hS (fun w' hw' => (Run.pickF rfl rfl).to (v' := .bool (decide (0 ≤ D1.getD b 0 ∧ (D1.getD a 0 < 0 ∨ D1.getD b 0 + 1 < D1.getD a 0)))) (by rw [decide_eq_false (fun h => h1 h.1)])) ?_
              refine JS.nil fun ac ha => ⟨(), ha.sub ⟨rfl, rfl, rfl, rfl, rfl, rfl, rfl, rfl, rfl, rfl, rfl, rfl, rfl, rfl, trivial⟩, rfl⟩
          · rintro _ _ rfl
            refine J.cond rfl (fun hc => ?_) (fun hc => ?_)
            · have hc' : (0 ≤ D1.getD b 0 ∧ (D1.getD a 0 < 0 ∨ D1.getD b 0 + 1 < D1.getD a 0)) := of_decide_eq_true hc
              have hh : half D1 b a = D1.set a (D1.getD b 0 + 1) := by rw [half, if_pos hc']
              have hS : Blk w11.drew (B + 2) 3 (ints D1) := hst11.dist
              refine J.region ?_
              refine JL.val (Run.move rfl) ?_
              refine JL.val (Run.move rfl) ?_
              refine JL.val (Run.move rfl) ?_
              refine JL.val (Run.move rfl) ?_
              refine JL.val (Run.index Yba.underlying29 c3 (by decide) rfl rfl hyn) ?_
              refine JL.val (Run.load t3 rfl (by rw [Nat.mul_one, Nat.zero_add]; exact hS.cell hA)) ?_
              refine JL.val (Run.add (c := D1.getD b 0 + 1) rfl rfl (by omega) (by omega) (by omega)) ?_
              refine JL.val (Run.index Yba.underlying29 c3 (by decide) rfl rfl hxn) ?_
              refine JL.eff (Run.store c3 rfl rfl rfl hS (by simp; omega)) ?_
              rw [show 0 + a * 1 = a by omega, show (ints D1).set a (.int .i64 (D1.getD b 0 + 1)) = ints (half D1 b a) by rw [hh]; simp [List.map_set]]
              have hst12 := hst11.drew.setD (half D1 b a)
              refine JL.to (fun _ _ h => h) ?_
              refine J.region ?_    -- region 31
              refine JL.val (Run.add (c := ((j + 1 : Nat) : Int)) rfl rfl (by omega) (by omega) (by omega)) ?_    -- s183 := add t90 c:1:i64
              refine JL.val (Run.move rfl) ?_    -- s90 := move t183
              refine JL.nil fun ac ha => ⟨(j + 1, half D1 b a), by simp only; omega, ha.sub ⟨rfl, rfl, rfl, rfl, rfl, rfl, rfl, rfl, rfl, rfl, rfl, trivial⟩, by simp only; omega, hnext2.symm, by rw [half_len]; exact hD1l, fun u => by have := half_bnd hbnd1 b a u; simp only; omega, hst12⟩
            · have hc' : ¬ (0 ≤ D1.getD b 0 ∧ (D1.getD a 0 < 0 ∨ D1.getD b 0 + 1 < D1.getD a 0)) := of_decide_eq_false hc
              have hh : half D1 b a = D1 := by rw [half, if_neg hc']
              have hst12 : St w w11.drew m B (wallK i wl i) (hop0 i wl) (half D1 b a) := by rw [hh]; exact hst11.drew
              refine J.skipTo (fun _ _ h => h) ?_
              refine J.region ?_    -- region 31
              refine JL.val (Run.add (c := ((j + 1 : Nat) : Int)) rfl rfl (by omega) (by omega) (by omega)) ?_    -- s183 := add t90 c:1:i64
              refine JL.val (Run.move rfl) ?_    -- s90 := move t183
              refine JL.nil fun ac ha => ⟨(j + 1, half D1 b a), by simp only; omega, ha.sub ⟨rfl, rfl, rfl, rfl, rfl, rfl, rfl, rfl, rfl, rfl, rfl, trivial⟩, by simp only; omega, hnext2.symm, by rw [half_len]; exact hD1l, fun u => by have := half_bnd hbnd1 b a u; simp only; omega, hst12⟩
    · have hjl : j = es.length := by have := of_decide_eq_false hc; omega
      refine J.exitTo (fun _ _ h => h) ?_    -- exit 6
      refine J.region ?_    -- region 20
      refine JL.val (Run.move rfl) ?_    -- s86 := move t15
      refine JL.val (Run.add (c := ((r + 1 : Nat) : Int)) rfl rfl (by omega) (by omega) (by omega)) ?_    -- s87 := add t86 c:1:i64
      refine JL.val (Run.assign rfl) ?_    -- s15 := assign t87
      have hDe : D = rounds wl (md i es) (r + 1) ((hop0 i wl).set f 0) := by
        rw [hD, hjl, ← hmdl, List.take_length]
        show round wl (md i es) Dr = round wl (md i es) (rounds wl (md i es) r ((hop0 i wl).set f 0))
        rw [hDr]
      refine JL.nil fun ac ha => ⟨r + 1, by omega, ha.sub ⟨rfl, rfl, rfl, rfl, rfl, rfl, rfl, rfl, trivial⟩, by omega, by rw [← hDe]; exact hDl, ?_, by rw [← hDe]; exact hst⟩
      rw [← hDe]
      intro u
      have := hbnd u
      omega
  have hri : r = i := by have := of_decide_eq_false hc; omega
  subst hri
  clear hc hr hbnd
  refine J.exitTo (fun _ _ h => h) ?_    -- exit 4
  generalize hDr : rounds wl (md r es) r ((hop0 r wl).set f 0) = D at *
  refine J.seq ?_
  refine J.region ?_    -- region 32
  refine JL.val (Run.move rfl) ?_    -- s184 := move t9
  refine JL.val (Run.move rfl) ?_    -- s185 := move t2
  refine JL.val (Run.move rfl) ?_    -- s186 := move t12
  refine JL.val (Run.move rfl) ?_    -- s187 := move t0
  refine JL.val (Run.make (l := 0) (c := r) el29 z3 (zs := [.int .i64 0]) rfl rfl rfl (by omega) (by omega) (by omega)) ?_    -- s188 := makeSlice 29 c:0:i64 t187
  rw [rep_one]
  have hqnew := Blk.new w7 3 (List.replicate r (.int .i64 0 : Value))
  have hqb : B + 2 < w7.heap.size := hst.dist.lt
  have hst8 := hst.alloc (.cells (List.replicate r (.int .i64 0 : Value)).toArray 3)
  have hsz8 : (w7.alloc (.cells (List.replicate r (.int .i64 0 : Value)).toArray 3)).heap.size = w7.heap.size + 1 := by simp
  generalize w7.alloc (.cells (List.replicate r (.int .i64 0 : Value)).toArray 3) = w8 at *
  generalize w7.heap.size = qb at *
  clear hst
  refine JL.call rfl Yba.func7 rfl rfl ?_    -- s189 := CALL f7(t184, t185, t186, t188) [27,3,29,29]
  have hbase8 : w.heap.size ≤ w8.heap.size := by have := hst8.base; omega
  have hrange : ∀ (u : Nat) (x : Int), x ∈ m.lists.getD u [] → ∃ v : Nat, v < r ∧ x = (v : Int) := fun u x hx => by
    obtain ⟨v, rfl, e, he, _, h⟩ := (hlst.mem u x).1 hx
    have hlt := md_lt hn0 es e he
    rcases h with ⟨_, rfl⟩ | ⟨_, rfl⟩
    · exact ⟨_, hlt.2, rfl⟩
    · exact ⟨_, hlt.1, rfl⟩
  refine search_calls w8 w.heap.size m r f (B + 1) r r (some ⟨qb, 0, none⟩) (hop0 r wl) hst8.gr hbase8 hlst.rows (by omega) ?_ (fun q hq => by have := hlst.row q hq; omega) hst8.hops hh0l hf (by rw [hop0_get hf, hwf]; decide)
    (fun hf' => by have := hst8.foot _ hf'; omega) ?_ (by simp [Value.ownBlock]; omega) ?_ _ ?_
  · intro q hq x hx
    obtain ⟨u, hu⟩ := List.getElem?_of_mem hq
    exact hrange u x (by simpa [Gr.lists, hu] using hx)
  · have hbase := hst8.base
    exact ownsRow_zero (ownsRow_of_blk hqnew (by omega) (by simp) (by show r ≤ 9223372036854775807; omega))
  · intro b hb hf'
    simp [Value.ownBlock] at hb
    have := hst8.foot _ hf'
    omega
  intro w9 H Q qa qc hsw
  refine ⟨_, rfl, ?_⟩
  refine JL.val (Run.assign rfl) ?_    -- s20 := assign t189
  refine JL.to (fun _ _ h => h) ?_
  -- what lies behind the search
  have hA0 : ∀ b, (b = B + 1 ∨ (Value.slice (some ⟨qb, 0, none⟩) 0 r).ownBlock = some b) → w.heap.size ≤ b := fun b hb => by
    have := hst8.base
    rcases hb with rfl | hb
    · omega
    · simp [Value.ownBlock] at hb
      omega
  have hbel9 : Below w.heap.size w w9 := hst8.bel.trans (hsw.upd.below hbase8 hA0)
  have hwall9 : Blk w9 B 4 (wallK r wl r) := hsw.upd.blk hst8.wall (by simp [Value.ownBlock]; omega)
  have hdist9 : Blk w9 (B + 2) 3 (ints D) := hsw.upd.blk hst8.dist (by simp [Value.ownBlock]; omega)
  have hhops9 := hsw.hops
  have hq9 := hsw.q
  have hadj : gadj m = adjOf (md r es) := by
    funext u v
    refine propext ⟨fun h => ?_, fun h => (hlst.mem u v).2 ⟨v, rfl, h⟩⟩
    obtain ⟨v', e, h'⟩ := (hlst.mem u v).1 h
    have : v = v' := by omega
    subst this
    exact h'
  have hB := hsw.bfs
  rw [hadj] at hB
  have hwl0 : ∀ v, v < r → (wl v = true → 0 ≤ (hop0 r wl).getD v 0) ∧ (wl v = false → (hop0 r wl).getD v 0 = -1) := fun v hv => by
    rw [hop0_get hv]
    constructor
    · intro h; rw [h]; decide
    · intro h; rw [h]; rfl
  have heq := hops_eq hB (md_lt hn0 es) hwl0 hf hwf
  rw [hDr] at heq
  have hcount := count_eq hB hwl0
  have hHl := hB.len
  have hqlen := hB.qlen
  have hQ0 : 0 < Q.length := (List.getElem?_eq_some_iff.1 hB.head).1
  clear hsw hst8 hqnew hA0 hDr hlst hadj hrange hec hv0 hfoot
  obtain ⟨qg, qcap, hqs⟩ := ownsRow_some hq9 hQ0
  simp only [Value.slice.injEq, true_and] at hqs
  obtain ⟨rfl, rfl⟩ := hqs
  refine J.seq ?_
  refine J.region ?_    -- region 33
  refine JL.val (Run.assign rfl) ?_    -- s21 := assign c:0:i64
  refine JL.to (fun _ _ h => h) ?_
  refine J.seq ?_
  refine J.seq ?_
  refine J.region ?_    -- region 34
  refine JL.val (Run.assign rfl) ?_    -- s22 := assign c:0:i64
  refine JL.to (fun _ _ h => h) ?_
  refine J.block ?_    -- block 8
  refine J.loop (ι := Nat) (fun k => [(0, .int .i64 (r : Int)), (2, .int .i64 (f : Int)), (10, .slice (some ⟨B, 0, none⟩) r r), (12, .slice (some ⟨B + 1, 0, none⟩) r r), (13, .slice (some ⟨B + 2, 0, none⟩) r r), (20, .slice (some ⟨qg, 0, none⟩) Q.length qc), (21, .int .i64 (((List.range k).countP (fun v => !wl v && decide (0 ≤ H.getD v 0)) : Nat) : Int)), (22, .int .i64 (k : Int))])
    (fun k w' => k ≤ r ∧ Below w.heap.size w w' ∧ Blk w' B 4 (wallK r wl r) ∧ Blk w' (B + 2) 3 (ints D) ∧ Blk w' (B + 1) 3 (ints H) ∧ w'.ownsRow w.heap.size 3 1 (.slice (some ⟨qg, 0, none⟩) Q.length qc) Q.length (nats Q)) (fun k => r - k) 0 ⟨rfl, rfl, rfl, rfl, rfl, rfl, rfl, rfl, trivial⟩ ⟨by omega, hbel9, hwall9, hdist9, hhops9, hq9⟩ ?_
  clear hbel9 hwall9 hdist9 hhops9 hq9
  rintro k w10 ⟨hk, hbel, hwall, hdist, hhops, hq⟩
  refine J.seq ?_
  refine J.seq ?_
  refine J.region ?_    -- region 35
  refine JL.val (Run.move rfl) ?_    -- s190 := move t22
  refine JL.val (Run.move rfl) ?_    -- s191 := move t0
  refine JL.val (Run.lss rfl rfl) ?_    -- s192 := lss t190 t191
  refine JL.to (fun _ _ h => h) ?_
  refine J.cond rfl (fun hc => ?_) (fun hc => ?_)    -- if t192
  · have hkr : k < r := by have := of_decide_eq_true hc; omega
    clear hc
    have hkH := ints_get (D := H) (v := k) (by omega)
    have hkD := ints_get (D := D) (v := k) (by omega)
    have hkc : (List.range (k + 1)).countP (fun v => !wl v && decide (0 ≤ H.getD v 0)) = (List.range k).countP (fun v => !wl v && decide (0 ≤ H.getD v 0)) + (if (!wl k && decide (0 ≤ H.getD k 0)) = true then 1 else 0) := by
      rw [List.range_succ, List.countP_append, List.countP_singleton]
    have hcl : (List.range k).countP (fun v => !wl v && decide (0 ≤ H.getD v 0)) ≤ k := by
      have := List.countP_le_length (p := fun v => !wl v && decide (0 ≤ H.getD v 0)) (l := List.range k)
      simpa using this
    generalize (List.range k).countP (fun v => !wl v && decide (0 ≤ H.getD v 0)) = ck at *
    have hek := heq k hkr
    refine J.skipTo (fun _ _ h => h) ?_
    refine J.seq ?_
    refine J.block ?_    -- block 9
    refine J.seq ?_
    refine J.seq ?_
    -- region 37 draws
    have hS : Blk w10.drew (B + 1) 3 (ints H) ∧ Blk w10.drew (B + 2) 3 (ints D) := ⟨hhops, hdist⟩
    refine J.draw (fun x => Blk x (B + 1) 3 (ints H) ∧ Blk x (B + 2) 3 (ints D)) 9 [(0, true), (1, true), (2, true), (3, true), (4, true), (5, true), (6, true), (7, true), (8, true)] (by kernel_rfl) (by kernel_rfl) ?_
    refine JS.take (i := 0) rfl hS (fun w' hw' => Run.move rfl) ?_    -- s195 := move t12
    refine JS.take (i := 1) rfl hS (fun w' hw' => Run.move rfl) ?_    -- s196 := move t22
    refine JS.take (i := 2) rfl hS (fun w' hw' => Run.index Yba.underlying29 c3 (by decide) rfl rfl hkr) ?_    -- s197 := index 29 t195 [t196]
    refine JS.take (i := 3) rfl hS (fun w' hw' => Run.load t3 rfl (by rw [Nat.mul_one, Nat.zero_add]; exact hw'.1.cell hkH)) ?_    -- s198 := load 3 [t197]
    refine JS.take (i := 4) rfl hS (fun w' hw' => Run.move rfl) ?_    -- s199 := move t13
    refine JS.take (i := 5) rfl hS (fun w' hw' => Run.move rfl) ?_    -- s200 := move t22
    refine JS.take (i := 6) rfl hS (fun w' hw' => Run.index Yba.underlying29 c3 (by decide) rfl rfl hkr) ?_    -- s201 := index 29 t199 [t200]
    refine JS.take (i := 7) rfl hS (fun w' hw' => Run.load t3 rfl (by rw [Nat.mul_one, Nat.zero_add]; exact hw'.2.cell hkD)) ?_    -- s202 := load 3 [t201]
    refine JS.take (i := 8) rfl hS (fun w' hw' => Run.neq rfl rfl) ?_    -- s203 := neq t198 t202
    refine JS.to (fun _ _ h => h) ?_
    refine J.condF rfl (by rw [← hek]; simp) ?_
    refine J.skipTo (fun _ _ h => h) ?_
    refine J.seq ?_
    refine J.region ?_    -- region 39
    refine JL.val (Run.move rfl) ?_    -- s204 := move t10
    refine JL.val (Run.move rfl) ?_    -- s205 := move t22
    refine JL.val (Run.index Yba.underlying25 c4 (by decide) rfl rfl hkr) ?_    -- s206 := index 25 t204 [t205]
    refine JL.val (Run.load t4 rfl (by rw [Nat.mul_one, Nat.zero_add]; exact hwall.cell (wallK_get hkr))) ?_    -- s207 := load 4 [t206]
    cases hwk : wl k with
    | true =>
      refine JL.val ((Run.not rfl).to (v' := .bool false) rfl) ?_    -- s208 := UnOp.not t207
      refine JL.val (Run.move rfl) ?_    -- s209 := move t208
      refine JL.gskip rfl rfl ?_
      refine JL.gskip rfl rfl ?_
      refine JL.gskip rfl rfl ?_
      refine JL.gskip rfl rfl ?_
      refine JL.gskip rfl rfl ?_
      refine JL.val (Run.pickF rfl rfl) ?_    -- s215 := pick t209 t214 c:bool(false)
      refine JL.to (fun _ _ h => h) ?_
      refine J.condF rfl rfl ?_
      refine J.skipTo (fun _ _ h => h) ?_
      refine J.region ?_    -- region 36
      refine JL.val (Run.move rfl) ?_    -- s193 := move t22
      refine JL.val (Run.add (c := ((k + 1 : Nat) : Int)) rfl rfl (by omega) (by omega) (by omega)) ?_    -- s194 := add t193 c:1:i64
      refine JL.val (Run.assign rfl) ?_    -- s22 := assign t194
      refine JL.nil fun ac ha => ⟨k + 1, by omega, ha.sub ⟨rfl, rfl, rfl, rfl, rfl, rfl, by rw [hkc, hwk]; rfl, rfl, trivial⟩, by omega, hbel.drew, hwall, hdist, hhops, hq⟩
    | false =>
      refine JL.val ((Run.not rfl).to (v' := .bool true) rfl) ?_    -- s208 := UnOp.not t207
      refine JL.val (Run.move rfl) ?_    -- s209 := move t208
      refine JL.gval rfl rfl (Run.move rfl) ?_    -- s210 := move t13  G(5, True)
      refine JL.gval rfl rfl (Run.move rfl) ?_    -- s211 := move t22  G(5, True)
      refine JL.gval rfl rfl (Run.index Yba.underlying29 c3 (by decide) rfl rfl hkr) ?_    -- s212 := index 29 t210 [t211]  G(5, True)
      refine JL.gval rfl rfl (Run.load t3 rfl (by rw [Nat.mul_one, Nat.zero_add]; exact hdist.cell hkD)) ?_    -- s213 := load 3 [t212]  G(5, True)
      refine JL.gval rfl rfl (Run.geq rfl rfl) ?_    -- s214 := geq t213 c:0:i64  G(5, True)
      refine JL.val (Run.pickT rfl rfl) ?_    -- s215 := pick t209 t214 c:bool(false)
      refine JL.to (fun _ _ h => h) ?_
      refine J.cond rfl (fun hc => ?_) (fun hc => ?_)    -- if t215
      · have hge : 0 ≤ H.getD k 0 := by have := of_decide_eq_true hc; omega
        refine J.region ?_    -- region 40
        refine JL.val (Run.move rfl) ?_    -- s216 := move t21
        refine JL.val (Run.add (c := ((ck + 1 : Nat) : Int)) rfl rfl (by omega) (by omega) (by omega)) ?_    -- s217 := add t216 c:1:i64
        refine JL.val (Run.assign rfl) ?_    -- s21 := assign t217
        refine JL.to (fun _ _ h => h) ?_
        refine J.region ?_    -- region 36
        refine JL.val (Run.move rfl) ?_    -- s193 := move t22
        refine JL.val (Run.add (c := ((k + 1 : Nat) : Int)) rfl rfl (by omega) (by omega) (by omega)) ?_    -- s194 := add t193 c:1:i64
        refine JL.val (Run.assign rfl) ?_    -- s22 := assign t194
        refine JL.nil fun ac ha => ⟨k + 1, by omega, ha.sub ⟨rfl, rfl, rfl, rfl, rfl, rfl, by rw [hkc, hwk, decide_eq_true hge]; rfl, rfl, trivial⟩, by omega, hbel.drew, hwall, hdist, hhops, hq⟩
      · have hge : ¬ 0 ≤ H.getD k 0 := by have := of_decide_eq_false hc; omega
        refine J.skipTo (fun _ _ h => h) ?_
        refine J.region ?_    -- region 36
        refine JL.val (Run.move rfl) ?_    -- s193 := move t22
        refine JL.val (Run.add (c := ((k + 1 : Nat) : Int)) rfl rfl (by omega) (by omega) (by omega)) ?_    -- s194 := add t193 c:1:i64
        refine JL.val (Run.assign rfl) ?_    -- s22 := assign t194
        refine JL.nil fun ac ha => ⟨k + 1, by omega, ha.sub ⟨rfl, rfl, rfl, rfl, rfl, rfl, by rw [hkc, hwk, decide_eq_false hge]; rfl, rfl, trivial⟩, by omega, hbel.drew, hwall, hdist, hhops, hq⟩
  have hkr : k = r := by have := of_decide_eq_false hc; omega
  subst hkr
  clear hc hk
  rw [hcount]
  refine J.exitTo (fun _ _ h => h) ?_    -- exit 8
  have hqf : w10.cell? ⟨qg, 0, none⟩ = some (.int .i64 (f : Int)) := ownsRow_cell hq (by simp [hB.head])
  refine J.seq ?_
  refine J.seq ?_
  refine J.region ?_    -- region 41
  refine JL.val (Run.move rfl) ?_    -- s218 := move t20
  refine JL.val (Run.len Yba.underlying29 rfl) ?_    -- s219 := builtin Builtin.len(t218) [29]
  refine JL.val (Run.move rfl) ?_    -- s220 := move t21
  refine JL.val ((Run.neq rfl rfl).to (v' := .bool false) (by simp)) ?_    -- s221 := neq t219 t220
  refine JL.val (Run.move rfl) ?_    -- s222 := move t221
  refine JL.gval rfl rfl (Run.move rfl) ?_    -- s223 := move t20  G(4, False)
  refine JL.gval rfl rfl (Run.len Yba.underlying29 rfl) ?_    -- s224 := builtin Builtin.len(t223) [29]  G(4, False)
  refine JL.gval rfl rfl ((Run.eql rfl rfl).to (bf (by omega))) ?_    -- s225 := eql t224 c:0:i64  G(4, False)
  refine JL.val (Run.pickF rfl rfl) ?_    -- s226 := pick t222 c:bool(true) t225
  refine JL.val (Run.move rfl) ?_    -- s227 := move t226
  refine JL.gval rfl rfl (Run.move rfl) ?_    -- s228 := move t20  G(9, False)
  refine JL.gval rfl rfl (Run.indexZ Yba.underlying29 c3 (by decide) rfl rfl (by decide) (by omega)) ?_    -- s229 := index 29 t228 [c:0:i64]  G(9, False)
  refine JL.gval rfl rfl (Run.load t3 rfl hqf) ?_    -- s230 := load 3 [t229]  G(9, False)
  refine JL.gval rfl rfl (Run.move rfl) ?_    -- s231 := move t2  G(9, False)
  refine JL.gval rfl rfl ((Run.neq rfl rfl).to (v' := .bool false) (by simp)) ?_    -- s232 := neq t230 t231  G(9, False)
  refine JL.val (Run.pickF rfl rfl) ?_    -- s233 := pick t227 c:bool(true) t232
  refine JL.to (fun _ _ h => h) ?_
  refine J.condF rfl rfl ?_
  refine J.skipTo (fun _ _ h => h) ?_
  refine J.seq ?_
  refine J.region ?_    -- region 43
  refine JL.val (Run.move rfl) ?_    -- s234 := move t0
  refine JL.val (Run.make (l := k) (c := k) el25 z4 (zs := [.bool false]) rfl rfl rfl (by omega) (by omega) (by omega)) ?_    -- s235 := makeSlice 25 t234 t234
  rw [rep_one]
  refine JL.val (Run.assign rfl) ?_    -- s23 := assign t235
  refine JL.to (fun _ _ h => h) ?_
  have hseen0 : Blk (w10.alloc (.cells (List.replicate k (.bool false : Value)).toArray 4)) w10.heap.size 4 ((List.range k).map fun v => .bool (decide (v ∈ Q.take 0))) := by
    have e : ((List.range k).map fun v => Value.bool (decide (v ∈ Q.take 0))) = List.replicate k (.bool false) := by simp [List.map_const']
    rw [e]
    exact Blk.new _ _ _
  have hwall1 := hwall.alloc (.cells (List.replicate k (.bool false : Value)).toArray 4)
  have hhops1 := hhops.alloc (.cells (List.replicate k (.bool false : Value)).toArray 4)
  have hbel1 := hbel.alloc hbel.size (.cells (List.replicate k (.bool false : Value)).toArray 4)
  have hq1 : (w10.alloc (.cells (List.replicate k (.bool false : Value)).toArray 4)).ownsRow w.heap.size 3 1 (.slice (some ⟨qg, 0, none⟩) Q.length qc) Q.length (nats Q) := ownsRow_keep hq (fun b hb => Below.heap_alloc w10 _ b (hq.lt b hb).2)
  have hs1 : B < w10.heap.size ∧ B + 1 < w10.heap.size ∧ qg < w10.heap.size ∧ w.heap.size ≤ w10.heap.size := ⟨hwall.lt, hhops.lt, (hq.lt qg rfl).2, hbel.size⟩
  generalize w10.alloc (.cells (List.replicate k (.bool false : Value)).toArray 4) = w11 at *
  generalize w10.heap.size = sb at *
  clear hwall hhops hbel hq hdist hqf
  refine J.seq ?_
  refine J.region ?_    -- region 44
  refine JL.val (Run.assign rfl) ?_    -- s24 := assign c:0:i64
  refine JL.to (fun _ _ h => h) ?_
  refine J.seq ?_
  refine J.seq ?_
  refine J.region ?_    -- region 45
  refine JL.val (Run.move rfl) ?_    -- s236 := move t20
  refine JL.val (Run.len Yba.underlying29 rfl) ?_    -- s237 := builtin Builtin.len(t236) [29]
  refine JL.val (Run.move rfl) ?_    -- s238 := move c:0:i64
  refine JL.to (fun _ _ h => h) ?_
  refine J.block ?_    -- block 10
  refine J.loop (ι := Nat × Int) (fun j => [(0, .int .i64 (k : Int)), (10, .slice (some ⟨B, 0, none⟩) k k), (12, .slice (some ⟨B + 1, 0, none⟩) k k), (23, .slice (some ⟨sb, 0, none⟩) k k), (24, .int .i64 j.2), (236, .slice (some ⟨qg, 0, none⟩) Q.length qc), (237, .int .i64 (Q.length : Int)), (238, .int .i64 (j.1 : Int))])
    (fun j w' => j.1 ≤ Q.length ∧ (∀ v, Q[j.1]? = some v → j.2 ≤ H.getD v 0) ∧ Below w.heap.size w w' ∧ Blk w' B 4 (wallK k wl k) ∧ Blk w' (B + 1) 3 (ints H) ∧ Blk w' sb 4 ((List.range k).map fun v => .bool (decide (v ∈ Q.take j.1))) ∧ w'.ownsRow w.heap.size 3 1 (.slice (some ⟨qg, 0, none⟩) Q.length qc) Q.length (nats Q))
    (fun j => Q.length - j.1) (0, 0) ⟨rfl, rfl, rfl, rfl, rfl, rfl, rfl, rfl, trivial⟩ ⟨by simp, fun v hv => (hB.inn v (List.mem_of_getElem? hv)).2, hbel1, hwall1, hhops1, hseen0, hq1⟩ ?_
  clear hbel1 hwall1 hhops1 hseen0 hq1
  rintro ⟨j, prev⟩ w12 ⟨hj, hprev, hbel, hwall, hhops, hseen, hq⟩
  simp only at hj hprev hseen
  refine J.seq ?_
  refine J.region ?_    -- region 46
  refine JL.val (Run.lss rfl rfl) ?_    -- s239 := lss t238 t237
  refine JL.to (fun _ _ h => h) ?_
  refine J.seq ?_
  refine J.cond rfl (fun hc => ?_) (fun hc => ?_)    -- if t239
  · have hjl : j < Q.length := by have := of_decide_eq_true hc; omega
    clear hc
    refine J.skipTo (fun _ _ h => h) ?_
    obtain ⟨u, hu⟩ : ∃ u, Q[j]? = some u := ⟨Q[j], List.getElem?_eq_getElem hjl⟩
    have huQ := List.mem_of_getElem? hu
    have huk := hB.lt u huQ
    have hup := hprev u hu
    have hcell : w12.cell? ⟨qg, j, none⟩ = some (.int .i64 (u : Int)) := ownsRow_cell hq (by simp [hu])
    have hwu : wl u = false := by
      cases h : wl u with
      | false => rfl
      | true =>
        have h1 := (hwl0 u huk).1 h
        have h2 := (hB.inn u huQ).1
        omega
    have hnot : ¬ u ∈ Q.take j := by
      intro hm
      obtain ⟨i, hi⟩ := List.getElem?_of_mem hm
      have hil : i < j := by
        have := (List.getElem?_eq_some_iff.1 hi).1
        simp at this
        omega
      rw [List.getElem?_take_of_lt hil] at hi
      have h1 := (List.getElem?_eq_some_iff.1 hi)
      have h2 := (List.getElem?_eq_some_iff.1 hu)
      have h3 : Q[i]'h1.1 = Q[j]'h2.1 := h1.2.trans h2.2.symm
      have := (List.getElem_inj hB.nd).1 h3
      omega
    have hsu : ((List.range k).map fun v => Value.bool (decide (v ∈ Q.take j)))[u]? = some (.bool false) := by
      rw [range_get _ huk, decide_eq_false hnot]
    have hkH := ints_get (D := H) (v := u) (by omega)
    refine J.seq ?_
    refine J.block ?_    -- block 11
    refine J.seq ?_
    refine J.region ?_    -- region 47
    refine JL.val (Run.index Yba.underlying29 c3 (by decide) rfl rfl hjl) ?_    -- s240 := index 29 t236 [t238]
    refine JL.val (Run.load t3 rfl (by simpa using hcell)) ?_    -- s241 := load 3 [t240]
    refine JL.val (Run.assign rfl) ?_    -- s26 := assign t241
    refine JL.to (fun _ _ h => h) ?_
    refine J.seq ?_
    refine J.seq ?_
    refine J.region ?_    -- region 48
    refine JL.val (Run.move rfl) ?_    -- s242 := move t26
    refine JL.val ((Run.lss rfl rfl).to (bf (by omega))) ?_    -- s243 := lss t242 c:0:i64
    refine JL.val (Run.move rfl) ?_    -- s244 := move t243
    refine JL.gval rfl rfl (Run.move rfl) ?_    -- s245 := move t26  G(2, False)
    refine JL.gval rfl rfl (Run.move rfl) ?_    -- s246 := move t0  G(2, False)
    refine JL.gval rfl rfl ((Run.geq rfl rfl).to (bf (by omega))) ?_    -- s247 := geq t245 t246  G(2, False)
    refine JL.val (Run.pickF rfl rfl) ?_    -- s248 := pick t244 c:bool(true) t247
    refine JL.val (Run.move rfl) ?_    -- s249 := move t248
    refine JL.gval rfl rfl (Run.move rfl) ?_    -- s250 := move t23  G(7, False)
    refine JL.gval rfl rfl (Run.move rfl) ?_    -- s251 := move t26  G(7, False)
    refine JL.gval rfl rfl (Run.index Yba.underlying25 c4 (by decide) rfl rfl huk) ?_    -- s252 := index 25 t250 [t251]  G(7, False)
    refine JL.gval rfl rfl (Run.load t4 rfl (by rw [Nat.mul_one, Nat.zero_add]; exact hseen.cell hsu)) ?_    -- s253 := load 4 [t252]  G(7, False)
    refine JL.val (Run.pickF rfl rfl) ?_    -- s254 := pick t249 c:bool(true) t253
    refine JL.val (Run.move rfl) ?_    -- s255 := move t254
    refine JL.gval rfl rfl (Run.move rfl) ?_    -- s256 := move t10  G(13, False)
    refine JL.gval rfl rfl (Run.move rfl) ?_    -- s257 := move t26  G(13, False)
    refine JL.gval rfl rfl (Run.index Yba.underlying25 c4 (by decide) rfl rfl huk) ?_    -- s258 := index 25 t256 [t257]  G(13, False)
    refine JL.gval rfl rfl (Run.load t4 rfl (by rw [Nat.mul_one, Nat.zero_add]; exact hwall.cell (wallK_get huk))) ?_    -- s259 := load 4 [t258]  G(13, False)
    refine JL.val (Run.pickF rfl rfl) ?_    -- s260 := pick t255 c:bool(true) t259
    refine JL.to (fun _ _ h => h) ?_
    refine J.condF rfl hwu ?_
    refine J.skipTo (fun _ _ h => h) ?_
    refine J.seq ?_
    refine J.region ?_    -- region 50
    refine JL.val (Run.move rfl) ?_    -- s261 := move t23
    refine JL.val (Run.move rfl) ?_    -- s262 := move t26
    refine JL.val (Run.index Yba.underlying25 c4 (by decide) rfl rfl huk) ?_    -- s263 := index 25 t261 [t262]
    refine JL.eff (Run.store c4 rfl rfl rfl hseen (by simp; omega)) ?_    -- sNone := store 4 [t263] := c:bool(true)
    refine JL.to (fun _ _ h => h) ?_
    have hstep : ((List.range k).map fun v => Value.bool (decide (v ∈ Q.take j))).set (0 + u * 1) (.bool true) = (List.range k).map fun v => Value.bool (decide (v ∈ Q.take (j + 1))) := by
      have h := range_set k u (fun v => Value.bool (decide (v ∈ Q.take j))) (fun v => Value.bool (decide (v ∈ Q.take (j + 1)))) (fun v hv => by
        have : (v ∈ Q.take (j + 1)) ↔ (v ∈ Q.take j) := by rw [take_snoc hu]; simp [hv]
        simp only [this])
      have hu' : u ∈ Q.take (j + 1) := by rw [take_snoc hu]; simp
      simp only [decide_eq_true hu'] at h
      rw [show 0 + u * 1 = u by omega]
      exact h
    rw [hstep]
    have hhops2 := hhops.stl_ne (b := sb) (l' := (List.range k).map fun v => Value.bool (decide (v ∈ Q.take (j + 1)))) (by omega)
    have hwall2 := hwall.stl_ne (b := sb) (l' := (List.range k).map fun v => Value.bool (decide (v ∈ Q.take (j + 1)))) (by omega)
    have hseen2 := hseen.stl ((List.range k).map fun v => Value.bool (decide (v ∈ Q.take (j + 1))))
    have hbel2 := hbel.stl (b := sb) hs1.2.2.2 ((List.range k).map fun v => Value.bool (decide (v ∈ Q.take (j + 1))))
    have hq2 : (Fw.stl w12 sb ((List.range k).map fun v => Value.bool (decide (v ∈ Q.take (j + 1))))).ownsRow w.heap.size 3 1 (.slice (some ⟨qg, 0, none⟩) Q.length qc) Q.length (nats Q) := ownsRow_keep hq (fun b hb => by simp [Value.ownBlock] at hb; exact stl_other (by omega))
    generalize Fw.stl w12 sb ((List.range k).map fun v => Value.bool (decide (v ∈ Q.take (j + 1)))) = w13 at *
    refine J.seq ?_
    refine J.seq ?_
    refine J.region ?_    -- region 51
    refine JL.val (Run.move rfl) ?_    -- s264 := move t12
    refine JL.val (Run.move rfl) ?_    -- s265 := move t26
    refine JL.val (Run.index Yba.underlying29 c3 (by decide) rfl rfl huk) ?_    -- s266 := index 29 t264 [t265]
    refine JL.val (Run.load t3 rfl (by rw [Nat.mul_one, Nat.zero_add]; exact hhops2.cell hkH)) ?_    -- s267 := load 3 [t266]
    refine JL.val (Run.move rfl) ?_    -- s268 := move t24
    refine JL.val (Run.lss rfl rfl) ?_    -- s269 := lss t267 t268
    refine JL.to (fun _ _ h => h) ?_
    refine J.condF rfl (decide_eq_false (by omega)) ?_
    refine J.skipTo (fun _ _ h => h) ?_
    refine J.region ?_    -- region 53
    refine JL.val (Run.move rfl) ?_    -- s270 := move t12
    refine JL.val (Run.move rfl) ?_    -- s271 := move t26
    refine JL.val (Run.index Yba.underlying29 c3 (by decide) rfl rfl huk) ?_    -- s272 := index 29 t270 [t271]
    refine JL.val (Run.load t3 rfl (by rw [Nat.mul_one, Nat.zero_add]; exact hhops2.cell hkH)) ?_    -- s273 := load 3 [t272]
    refine JL.val (Run.assign rfl) ?_    -- s24 := assign t273
    refine JL.to (fun _ _ h => h) ?_
    refine J.region ?_    -- region 54
    refine JL.val (Run.add (c := ((j + 1 : Nat) : Int)) rfl rfl (by omega) (by omega) (by omega)) ?_    -- s274 := add t238 c:1:i64
    refine JL.val (Run.move rfl) ?_    -- s238 := move t274
    refine JL.nil fun ac ha => ⟨(j + 1, H.getD u 0), by simp only; omega, ha.sub ⟨rfl, rfl, rfl, rfl, rfl, rfl, rfl, rfl, trivial⟩, by simp only; omega, fun v hv => hB.mono j (j + 1) u v (by omega) hu hv, hbel2, hwall2, hhops2, hseen2, hq2⟩
  · refine J.exitTo (fun _ _ h => h) ?_    -- exit 10
    refine J.seq ?_
    refine J.region ?_    -- region 55
    refine JL.val (Run.assign rfl) ?_    -- s8 := assign c:bool(true)
    refine JL.to (fun _ _ h => h) ?_
    refine J.ret1 Yba.f5 R (fun _ _ h => h) rfl rfl ?_
    exact hR _ hbel
end Go.Proofs.Ybulkpka
