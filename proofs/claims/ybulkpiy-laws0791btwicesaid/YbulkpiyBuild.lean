/-
  zzs0791bbuild: what it lays in memory.
-/
import Derived.Test.YbulkpiyBuild0
namespace Go.Proofs.Ybulkpiy
open Go.Fw Go.RowKit
attribute [local simp] Go.Fw.stl_size Go.Fw.sto_size

theorem Upd.reA {w0 w : World} {A0 A A' : Nat → Prop} (h : Upd w0 w A0 A) (hA' : ∀ b, A' b → A0 b ∨ w0.heap.size ≤ b) : Upd w0 w A0 A' := ⟨h.os, h.tape, h.output, h.size, h.keep, hA'⟩

/-- The first K images' marks. -/
structure MksUp (w : World) (N : Nat) (ms : Nat → Mk) (K : Nat) : Prop where
  ok : ∀ k, k < K → MkOk w N (ms k)
  sep : ∀ j k, j < K → k < K → j ≠ k → ∀ b, (ms j).foot b → ¬ (ms k).foot b

theorem MksUp.keep {w w' : World} {N K : Nat} {ms : Nat → Mk} (h : MksUp w N ms K) (hk : ∀ b, N ≤ b → b < w.heap.size → w'.heap[b]? = w.heap[b]?) : MksUp w' N ms K :=
  ⟨fun k hk3 => (h.ok k hk3).keep fun b hb => hk b ((h.ok k hk3).lt hb).1 ((h.ok k hk3).lt hb).2, h.sep⟩

/-- One more. -/
theorem MksUp.more {w w' : World} {N K : Nat} {ms : Nat → Mk} {m : Mk} (h : MksUp w N ms K) (hm : MkOk w' N m) (hu : Upd w w' (fun _ => False) m.foot) : MksUp w' N (updM ms K m) (K + 1) := by
  have hge : ∀ b, m.foot b → w.heap.size ≤ b := fun b hb => (hu.sub b hb).resolve_left id
  refine ⟨fun k hk => ?_, fun i j hi hj hij b hb hb' => ?_⟩
  · unfold updM
    split
    · exact hm
    · rename_i hne
      exact (h.ok k (by omega)).keep fun b hb => hu.keep b ((h.ok k (by omega)).lt hb).2 id
  · unfold updM at hb hb'
    split at hb
    · split at hb'
      · omega
      · have := ((h.ok j (by omega)).lt hb').2
        have := hge b hb
        omega
    · split at hb'
      · have := ((h.ok i (by omega)).lt hb).2
        have := hge b hb'
        omega
      · exact h.sep i j (by omega) (by omega) hij b hb hb'

def names : List Value := [.string ⟨#[97]⟩, .string ⟨#[98]⟩, .string ⟨#[99]⟩]
def mptr (ms : Nat → Mk) (K j : Nat) : Value := if j < K then .pointer (some ⟨(ms j).b, 0, none⟩) else .pointer none
def mptrs (ms : Nat → Mk) (K : Nat) : List Value := [mptr ms K 0, mptr ms K 1, mptr ms K 2]
def bsOf (ms : Nat → Mk) : Nat → Nat := fun j => (ms j).b

theorem mptrs_set (ms : Nat → Mk) (m : Mk) (k : Nat) (hk : k < 3) : (mptrs ms k).set k (.pointer (some ⟨m.b, 0, none⟩)) = mptrs (updM ms k m) (k + 1) := by
  rcases (by omega : k = 0 ∨ k = 1 ∨ k = 2) with rfl | rfl | rfl <;> simp [mptrs, mptr, updM]

theorem ents_push (ms : Nat → Mk) (m : Mk) (k : Nat) : (ents (bsOf ms) k).toArray.push ⟨keyOf (97 + k.toUInt8), .pointer (some ⟨m.b, 0, none⟩), k⟩ = (ents (bsOf (updM ms k m)) (k + 1)).toArray := by
  apply Array.ext'
  simp only [ents, List.range_succ, List.map_append, List.map_cons, List.map_nil, List.push_toArray]
  congr 1
  · apply List.map_congr_left
    intro j hj
    simp at hj
    simp [entryOf, bsOf, updM, show ¬ j = k by omega]
  · simp [entryOf, bsOf, updM]

theorem find_none (w : World) (bs : Nat → Nat) (k : Nat) (hk : k < 3) : (Instr.findKey 62 (keyOf (97 + k.toUInt8)) (ents bs k)).run Yba.prog w = .ok none w := by
  rcases (by omega : k = 0 ∨ k = 1 ∨ k = 2) with rfl | rfl | rfl
  · exact find0 w bs
  · exact find1 w bs
  · exact find2 w bs

/-- What the first part of the build leaves. -/
structure PartA (w w' : World) (bm sb nb msb : Nat) (prior : List Nat) (ms : Nat → Mk) (k : Nat) : Prop where
  below : Below w.heap.size w w'
  lo : w.heap.size ≤ bm
  o1 : bm < sb
  o2 : sb < nb
  o3 : nb < msb
  o4 : msb < w'.heap.size
  st : Blk w' sb 53 (stCells (.slice none 0 0) bm)
  map : w'.heap[bm]? = some (.map (ents (bsOf ms) k).toArray k)
  nm : Blk w' nb 54 names
  mp : Blk w' msb 55 (mptrs ms k)
  up : MksUp w' (msb + 1) ms k
  len : ∀ j, j < k → (ms j).rows.length = want0 prior j

/-- What the second part may still write: the staging, the two slices that grow. -/
def Tset (sb : Nat) (fv rv : Value) (b : Nat) : Prop := b = sb ∨ rv.ownBlock = some b ∨ fv.ownBlock = some b
def updF (f : Nat → Nat) (i x : Nat) : Nat → Nat := fun j => if j = i then x else f j

/-- What lies in memory when the first i followers are laid ('wB': the world behind the first part). -/
structure PartB (wB w' : World) (bm sb : Nat) (bs : Nat → Nat) (fs : List Fo) (i : Nat) (fv rv : Value) (rp sl : Nat → Nat) : Prop where
  upd : Upd wB w' (fun b => b = sb) (Tset sb fv rv)
  st : Blk w' sb 53 (stCells fv bm)
  sbl : sb < wB.heap.size
  rs : ∃ xs, w'.ownsRow wB.heap.size 63 1 rv i xs ∧ ∀ j, j < i → xs[j]? = some (.pointer (some ⟨rp j, 0, none⟩))
  fol : ∃ xs, w'.ownsRow wB.heap.size 74 8 fv i xs ∧ ∀ j f, j < i → fs[j]? = some f → xs[j * 8]? = some (.pointer (some ⟨rp j, 0, none⟩)) ∧ xs[j * 8 + 1]? = some (.pointer (some ⟨bs (f.img % 3), 0, none⟩))
  ne : ∀ b, rv.ownBlock = some b → fv.ownBlock ≠ some b
  recs : ∀ j f, j < i → fs[j]? = some f → Blk w' (rp j) 70 (recCells (.slice (some ⟨sl j, 0, none⟩) f.hosts.length f.hosts.length)) ∧ wB.heap.size ≤ rp j ∧ ¬ Tset sb fv rv (rp j) ∧ wB.heap.size ≤ sl j ∧ ¬ Tset sb fv rv (sl j) ∧
    ∃ l, Blk w' (sl j) 72 l ∧ ∀ t h, f.hosts[t]? = some h → l[t * 2]? = some (.int .i64 ((h : Nat) : Int)) ∧ l[t * 2 + 1]? = some (.int .i64 0)

theorem Tset.lt {wB w' : World} {bm sb i : Nat} {bs rp sl : Nat → Nat} {fs : List Fo} {fv rv : Value} (h : PartB wB w' bm sb bs fs i fv rv rp sl) {b : Nat} (hb : Tset sb fv rv b) : b < w'.heap.size := by
  obtain ⟨xs, hx, _⟩ := h.rs
  obtain ⟨ys, hy, _⟩ := h.fol
  rcases hb with rfl | hb | hb
  · exact h.st.lt
  · exact (hx.lt b hb).2
  · exact (hy.lt b hb).2

/-- Nothing that was there has turned. -/
theorem PartB.ext {wB w' w'' : World} {bm sb i : Nat} {bs rp sl : Nat → Nat} {fs : List Fo} {fv rv : Value} (h : PartB wB w' bm sb bs fs i fv rv rp sl) (hu : Upd w' w'' (fun _ => False) (fun _ => False)) : PartB wB w'' bm sb bs fs i fv rv rp sl := by
  have hk : ∀ b, b < w'.heap.size → w''.heap[b]? = w'.heap[b]? := fun b hb => hu.keep b hb id
  obtain ⟨xs, hx, hx2⟩ := h.rs
  obtain ⟨ys, hy, hy2⟩ := h.fol
  refine ⟨?_, hu.blk h.st id, h.sbl, ⟨xs, ownsRow_keep hx (fun b hb => hk b (hx.lt b hb).2), hx2⟩, ⟨ys, ownsRow_keep hy (fun b hb => hk b (hy.lt b hb).2), hy2⟩, h.ne, fun j f hj hf => ?_⟩
  · exact ⟨hu.os.trans h.upd.os, hu.tape.trans h.upd.tape, hu.output.trans h.upd.output, Nat.le_trans h.upd.size hu.size, fun b hb hn => (hk b (Nat.lt_of_lt_of_le hb h.upd.size)).trans (h.upd.keep b hb hn), h.upd.sub⟩
  · obtain ⟨h1, h2, h3, h4, h5, l, h6, h7⟩ := h.recs j f hj hf
    exact ⟨hu.blk h1 id, h2, h3, h4, h5, l, hu.blk h6 id, h7⟩

theorem stl_self {w : World} {b : Nat} {E : TypeId} {l : List Value} (h : Blk w b E l) : Fw.stl w b l = w := setRow_self w b l.toArray E (0, 0) h

set_option maxRecDepth 100000
theorem build_calls (w : World) (fs : List Fo) (v pv : Value) (prior : List Nat) (hfs : Fs w v fs) (hpr : U8s w pv prior) (hfl : fs.length ≤ 1024) (htot : total fs ≤ 4096)
    (R : Ending → World → Prop) (hR : ∀ (w' : World) (N sb bm msb : Nat) (rp sl : Nat → Nat) (ms : Nat → Mk) (fv rv : Value), Below w.heap.size w w' → w.heap.size ≤ N → N ≤ w'.heap.size → MksOk w' N ms →
      Imm w' (foots ms) sb bm msb (bsOf ms) rp sl fs fv rv → (∀ k, k < 3 → (ms k).rows.length = want0 prior k) →
      R (.returned (.tuple #[.pointer (some ⟨sb, 0, none⟩), .slice (some ⟨msb, 0, none⟩) 3 3, rv])) w') :
    Calls Yba.prog 6 #[v, pv] w R := by
  have hfs0 := hfs
  have hpr0 := hpr
  obtain ⟨va, vc, rfl, hf⟩ := hfs
  obtain ⟨hp256, pa, pc, rfl, hp⟩ := hpr
  refine calls (args := [_, _]) (m := 2) Yba.func6 rfl rfl rfl (by decide) ?_
  refine J.seq ?_
  refine J.region ?_    -- region 0
  refine JL.val (Run.assign rfl) ?_    -- s4 := assign c:pointer(none)
  refine JL.val (Run.assign rfl) ?_    -- s5 := assign c:slice(none,0,0)
  refine JL.val (Run.assign rfl) ?_    -- s6 := assign c:slice(none,0,0)
  refine JL.to (fun _ _ h => h) ?_
  refine J.seq ?_
  refine J.region ?_    -- region 1
  refine JL.val (Run.makeMap) ?_    -- s20 := makeMap 34 none
  refine JL.val (Run.build rfl (build53 _ _)) ?_    -- s21 := build 53
  refine JL.val (Run.box rfl rfl) ?_    -- s22 := box 53 t21
  refine JL.val (Run.assign rfl) ?_    -- s7 := assign t22
  refine JL.to (fun _ _ h => h) ?_
  refine J.seq ?_
  refine J.region ?_    -- region 2
  refine JL.val (Run.build rfl (build54 _)) ?_    -- s23 := build 54
  refine JL.val (Run.alloc (l := [.string ⟨#[]⟩, .string ⟨#[]⟩, .string ⟨#[]⟩]) z54 rfl) ?_    -- s8 := alloc 54
  refine JL.eff (Run.storeNew (cs := names) c54 (by decide) rfl rfl (by simp [names, Value.oneCell']) rfl) ?_    -- sNone := store 54 [t8] := t23
  refine JL.to (fun _ _ h => h) ?_
  refine J.seq ?_
  refine J.region ?_    -- region 3
  refine JL.val (Run.make (l := 3) (c := 3) (zs := [.pointer none]) el26 z55 rfl rfl rfl (by omega) (by omega) (by omega)) ?_    -- s24 := makeSlice 26 c:3:i64 c:3:i64
  refine JL.val (Run.assign rfl) ?_    -- s9 := assign t24
  refine JL.to (fun _ _ h => h) ?_
  have hst := ((Blk.new (w.alloc (.map #[] 0)) 53 (stCells (.slice none 0 0) w.heap.size)).alloc (.cells names.toArray 54)).alloc (.cells (rep 3 [.pointer none]).toArray 55)
  have hmap : ((((w.alloc (.map #[] 0)).alloc (.cells (stCells (.slice none 0 0) w.heap.size).toArray 53)).alloc (.cells names.toArray 54)).alloc (.cells (rep 3 [.pointer none]).toArray 55)).heap[w.heap.size]? = some (.map #[] 0) := by
    rw [Below.heap_alloc _ _ _ (by simp; omega), Below.heap_alloc _ _ _ (by simp; omega), Below.heap_alloc _ _ _ (by simp), heap_alloc_new]
  have hnm := (Blk.new ((w.alloc (.map #[] 0)).alloc (.cells (stCells (.slice none 0 0) w.heap.size).toArray 53)) 54 names).alloc (.cells (rep 3 [.pointer none]).toArray 55)
  have hmp := Blk.new (((w.alloc (.map #[] 0)).alloc (.cells (stCells (.slice none 0 0) w.heap.size).toArray 53)).alloc (.cells names.toArray 54)) 55 (rep 3 [.pointer none])
  have hbl : Below w.heap.size w ((((w.alloc (.map #[] 0)).alloc (.cells (stCells (.slice none 0 0) w.heap.size).toArray 53)).alloc (.cells names.toArray 54)).alloc (.cells (rep 3 [.pointer none]).toArray 55)) :=
    ((((Below.refl _ _).alloc (by omega) _).alloc (by simp) _).alloc (by simp; omega) _).alloc (by simp; omega) _
  have hsz : ((((w.alloc (.map #[] 0)).alloc (.cells (stCells (.slice none 0 0) w.heap.size).toArray 53)).alloc (.cells names.toArray 54)).alloc (.cells (rep 3 [.pointer none]).toArray 55)).heap.size = w.heap.size + 4 := by simp
  have h1 : (w.alloc (.map #[] 0)).heap.size = w.heap.size + 1 := by simp
  have h2 : ((w.alloc (.map #[] 0)).alloc (.cells (stCells (.slice none 0 0) w.heap.size).toArray 53)).heap.size = w.heap.size + 2 := by simp
  have h3 : (((w.alloc (.map #[] 0)).alloc (.cells (stCells (.slice none 0 0) w.heap.size).toArray 53)).alloc (.cells names.toArray 54)).heap.size = w.heap.size + 3 := by simp
  rw [h1] at hst
  rw [h2] at hnm
  rw [h3] at hmp
  rw [h1, h2, h3]
  clear h1 h2 h3
  generalize (((w.alloc (.map #[] 0)).alloc (.cells (stCells (.slice none 0 0) w.heap.size).toArray 53)).alloc (.cells names.toArray 54)).alloc (.cells (rep 3 [.pointer none]).toArray 55) = wA at *
  have hA0 : PartA w wA w.heap.size (w.heap.size + 1) (w.heap.size + 2) (w.heap.size + 3) prior (fun _ => ⟨0, .slice none 0 0, []⟩) 0 :=
    ⟨hbl, by omega, by omega, by omega, by omega, by omega, hst, hmap, hnm, hmp, ⟨fun _ h => absurd h (by omega), fun _ _ h => absurd h (by omega)⟩, fun _ h => absurd h (by omega)⟩
  clear hst hmap hnm hmp hbl hsz
  generalize w.heap.size + 3 = msb at *
  generalize w.heap.size + 2 = nb at *
  generalize w.heap.size + 1 = sb at *
  generalize hbm : w.heap.size = bm at hA0 ⊢
  refine J.mid (ι := Nat → Mk) (fun _ => [(0, .slice va fs.length vc), (7, .pointer (some ⟨sb, 0, none⟩)), (9, .slice (some ⟨msb, 0, none⟩) 3 3)])
    (fun ms w' => PartA w w' bm sb nb msb prior ms 3) ?_ ?_
  · refine J.seq ?_
    refine J.region ?_    -- region 4
    refine JL.val (Run.assign rfl) ?_    -- s10 := assign c:0:i64
    refine JL.to (fun _ _ h => h) ?_
    refine J.block ?_    -- block 0
    refine J.loop (ι := Nat × (Nat → Mk)) (fun x => [(0, .slice va fs.length vc), (1, .slice pa prior.length pc), (7, .pointer (some ⟨sb, 0, none⟩)), (8, .pointer (some ⟨nb, 0, none⟩)), (9, .slice (some ⟨msb, 0, none⟩) 3 3), (10, .int .i64 (x.1 : Int))])
      (fun x w' => PartA w w' bm sb nb msb prior x.2 x.1 ∧ x.1 ≤ 3) (fun x => 3 - x.1) (0, fun _ => ⟨0, .slice none 0 0, []⟩) ⟨rfl, rfl, rfl, rfl, rfl, rfl, trivial⟩ ⟨hA0, by simp⟩ ?_
    clear hA0 wA
    rintro ⟨k, ms⟩ w1 ⟨hA, hk⟩
    simp only at hA hk
    refine J.seq ?_
    refine J.seq ?_
    refine J.region ?_    -- region 5
    refine JL.val (Run.move rfl) ?_    -- s25 := move t10
    refine JL.val (Run.lss rfl rfl) ?_    -- s26 := lss t25 c:3:i64
    refine JL.to (fun _ _ h => h) ?_
    refine J.cond rfl (fun hc => ?_) (fun hc => ?_)    -- if t26
    rotate_left
    · have hk3 : k = 3 := by have := of_decide_eq_false hc; omega
      subst hk3
      exact J.exit fun a ha => ⟨ms, ha.sub ⟨rfl, rfl, rfl, trivial⟩, hA⟩
    have hk3 : k < 3 := by have := of_decide_eq_true hc; omega
    refine J.skipTo (fun _ _ h => h) ?_
    refine J.seq ?_
    refine J.block ?_    -- block 1
    refine J.seq ?_
    refine J.region ?_    -- region 7
    refine JL.val (Run.build rfl (build59 _)) ?_    -- s29 := build 59
    refine JL.val (Run.box rfl rfl) ?_    -- s30 := box 59 t29
    refine JL.val (Run.assign rfl) ?_    -- s11 := assign t30
    refine JL.to (fun _ _ h => h) ?_
    have hmb := Blk.new w1 59 (mkl (.slice none 0 0))
    have hNM : msb + 1 ≤ w1.heap.size := hA.o4
    have hm0 : MkOk (w1.alloc (.cells (mkl (.slice none 0 0)).toArray 59)) (msb + 1) ⟨w1.heap.size, .slice none 0 0, []⟩ :=
      ⟨hNM, hmb, World.ownsRow_nil _ _ _ _, fun _ h => absurd h (by simp), by simp [Value.ownBlock], fun _ h => absurd h (by simp), fun _ h => absurd h (by simp), fun i j r s b h => by simp at h⟩
    have hu0 : Upd w1 (w1.alloc (.cells (mkl (.slice none 0 0)).toArray 59)) (fun _ => False) (Mk.foot ⟨w1.heap.size, .slice none 0 0, []⟩) := by
      refine Upd.reA ((Upd.refl w1 (fun _ => False)).alloc _) ?_
      rintro b (rfl | hb | ⟨r, hr, _⟩)
      · exact .inr (Nat.le_refl _)
      · simp [Value.ownBlock] at hb
      · simp at hr
    have hb2 : Below w.heap.size w (w1.alloc (.cells (mkl (.slice none 0 0)).toArray 59)) := hA.below.alloc hA.below.size _
    have hsz2 : (w1.alloc (.cells (mkl (.slice none 0 0)).toArray 59)).heap.size = w1.heap.size + 1 := by simp
    generalize w1.alloc (.cells (mkl (.slice none 0 0)).toArray 59) = w2 at *
    refine J.mid (ι := Value × List (Value × List Int)) (fun _ => [(0, .slice va fs.length vc), (1, .slice pa prior.length pc), (7, .pointer (some ⟨sb, 0, none⟩)), (8, .pointer (some ⟨nb, 0, none⟩)), (9, .slice (some ⟨msb, 0, none⟩) 3 3), (10, .int .i64 (k : Int)), (11, .pointer (some ⟨w1.heap.size, 0, none⟩))])
      (fun x w' => MkOk w' (msb + 1) ⟨w1.heap.size, x.1, x.2⟩ ∧ Upd w1 w' (fun _ => False) (Mk.foot ⟨w1.heap.size, x.1, x.2⟩) ∧ x.2.length = want0 prior k) ?_ ?_
    · refine J.seq ?_
      refine J.region ?_    -- region 8
      refine JL.val (Run.move rfl) ?_    -- s31 := move t10
      refine JL.val (Run.move rfl) ?_    -- s32 := move t1
      refine JL.val (Run.len Yba.underlying23 rfl) ?_    -- s33 := builtin Builtin.len(t32) [23]
      refine JL.val (Run.lss rfl rfl) ?_    -- s34 := lss t31 t33
      refine JL.to (fun _ _ h => h) ?_
      refine J.cond rfl (fun hc => ?_) (fun hc => ?_)    -- if t34
      rotate_left
      · have hkl : prior.length ≤ k := by have := of_decide_eq_false hc; omega
        exact J.skip fun a ha => ⟨(.slice none 0 0, []), ha.sub ⟨rfl, rfl, rfl, rfl, rfl, rfl, rfl, trivial⟩, hm0, hu0, by simp [want0, List.getElem?_eq_none hkl]⟩
      have hkl : k < prior.length := by have := of_decide_eq_true hc; omega
      obtain ⟨p, hpk⟩ : ∃ p, prior[k]? = some p := ⟨prior[k], List.getElem?_eq_getElem hkl⟩
      obtain ⟨b, o, rfl, hpc⟩ := hp k p hpk
      have hw0 : want0 prior k = p % 12 := by simp [want0, hpk]
      refine J.seq ?_
      refine J.region ?_    -- region 9
      refine JL.val (Run.move rfl) ?_    -- s35 := move t1
      refine JL.val (Run.move rfl) ?_    -- s36 := move t10
      refine JL.val (Run.index Yba.underlying23 c5 (by decide) rfl rfl hkl) ?_    -- s37 := index 23 t35 [t36]
      refine JL.val (Run.load t5 rfl (by simpa using hb2.cell1 hpc)) ?_    -- s38 := load 5 [t37]
      refine JL.val (Run.remN (b := 12) rfl rfl (by decide)) ?_    -- s39 := rem t38 c:12:u8
      refine JL.val (Run.conv64 Yba.underlying3 ⟨_, Yba.underlying5⟩ rfl (by omega) (by omega)) ?_    -- s40 := conv 5>3 t39
      refine JL.val (Run.assign rfl) ?_    -- s12 := assign t40
      refine JL.to (fun _ _ h => h) ?_
      rw [← hw0]
      have hn12 : want0 prior k ≤ 16 := want0_le prior k
      generalize want0 prior k = n at *
      refine J.seq ?_
      refine J.region ?_    -- region 10
      refine JL.val (Run.move rfl) ?_    -- s41 := move t11
      refine JL.val (Run.move rfl) ?_    -- s42 := move t12
      refine JL.val (Run.make (zs := [.slice none 0 0]) el57 z60 rfl rfl rfl (by omega) (by omega) (by omega)) ?_    -- s43 := makeSlice 57 t42 t42
      refine JL.val (Run.nil rfl) ?_    -- s44 := nilCheck t41
      refine JL.val (Run.field fl59_2 rfl) ?_    -- s45 := field 59 t44 .2
      refine JL.eff (Run.store c57 rfl rfl rfl (hm0.blk.alloc _) (by simp)) ?_    -- sNone := store 57 [t45] := t43
      refine JL.to (fun _ _ h => h) ?_
      rw [rep_one]
      have hm1 := MkOk.extend (d := n) hm0 (World.grownBy_alloc w2 (.cells (List.replicate n (.slice none 0 0)).toArray 60) none)
        (by simpa [Mk.vals] using ownsRow_of_blk (base := msb + 1) (size := 1) (Blk.new w2 60 (List.replicate n (.slice none 0 0))) (by omega) (by simp) (by unfold maxLen; omega)) (.inr rfl)
      simp only [List.length_nil, Nat.zero_add, List.nil_append] at hm1
      have hu1 : Upd w1 (Fw.stl (w2.alloc (.cells (List.replicate n (.slice none 0 0)).toArray 60)) w1.heap.size (mkl (.slice (some ⟨w2.heap.size, 0, none⟩) n n))) (fun _ => False) (Mk.foot ⟨w1.heap.size, .slice (some ⟨w2.heap.size, 0, none⟩) n n, List.replicate n (.slice none 0 0, [])⟩) := by
        refine Upd.reA ((hu0.alloc _).stl (.inl (.inl rfl)) _) ?_
        rintro b (rfl | hb | ⟨r, hr, hb⟩)
        · exact .inr (Nat.le_refl _)
        · simp [Value.ownBlock] at hb
          exact .inr (by omega)
        · rw [List.eq_of_mem_replicate hr] at hb
          simp [Value.ownBlock] at hb
      have hset : (mkl (.slice none 0 0)).set (0 + 2) (.slice (some ⟨w2.heap.size, 0, none⟩) n n) = mkl (.slice (some ⟨w2.heap.size, 0, none⟩) n n) := rfl
      rw [hset]
      generalize Fw.stl (w2.alloc (.cells (List.replicate n (.slice none 0 0)).toArray 60)) w1.heap.size (mkl (.slice (some ⟨w2.heap.size, 0, none⟩) n n)) = w3 at *
      refine J.seq ?_
      refine J.region ?_    -- region 11
      refine JL.val (Run.assign rfl) ?_    -- s13 := assign c:0:i64
      refine JL.to (fun _ _ h => h) ?_
      refine J.block ?_    -- block 2
      refine J.loop (ι := Nat × List (Value × List Int)) (fun x => [(0, .slice va fs.length vc), (1, .slice (some ⟨b, o, none⟩) prior.length pc), (7, .pointer (some ⟨sb, 0, none⟩)), (8, .pointer (some ⟨nb, 0, none⟩)), (9, .slice (some ⟨msb, 0, none⟩) 3 3), (10, .int .i64 (k : Int)), (11, .pointer (some ⟨w1.heap.size, 0, none⟩)), (12, .int .i64 (n : Int)), (13, .int .i64 (x.1 : Int))])
        (fun x w' => MkOk w' (msb + 1) ⟨w1.heap.size, .slice (some ⟨w2.heap.size, 0, none⟩) n n, x.2⟩ ∧ Upd w1 w' (fun _ => False) (Mk.foot ⟨w1.heap.size, .slice (some ⟨w2.heap.size, 0, none⟩) n n, x.2⟩) ∧ x.2.length = n ∧ x.1 ≤ n)
        (fun x => n - x.1) (0, List.replicate n (.slice none 0 0, [])) ⟨rfl, rfl, rfl, rfl, rfl, rfl, rfl, rfl, rfl, trivial⟩ ⟨hm1, hu1, by simp, by simp⟩ ?_
      clear hm1 hu1 hset w3
      rintro ⟨h, rows⟩ w3 ⟨hok3, hu3, hl3, hh⟩
      simp only at hok3 hu3 hl3 hh
      refine J.seq ?_
      refine J.seq ?_
      refine J.region ?_    -- region 12
      refine JL.val (Run.move rfl) ?_    -- s46 := move t13
      refine JL.val (Run.move rfl) ?_    -- s47 := move t12
      refine JL.val (Run.lss rfl rfl) ?_    -- s48 := lss t46 t47
      refine JL.to (fun _ _ h => h) ?_
      refine J.cond rfl (fun hc => ?_) (fun hc => ?_)    -- if t48
      rotate_left
      · exact J.exit fun a ha => ⟨(.slice (some ⟨w2.heap.size, 0, none⟩) n n, rows), ha.sub ⟨rfl, rfl, rfl, rfl, rfl, rfl, rfl, trivial⟩, hok3, hu3, hl3⟩
      have hhl : h < n := by have := of_decide_eq_true hc; omega
      obtain ⟨r, hrh⟩ : ∃ r, rows[h]? = some r := ⟨rows[h]'(by omega), List.getElem?_eq_getElem (by omega)⟩
      refine J.skipTo (fun _ _ h => h) ?_
      refine J.seq ?_
      refine J.block ?_    -- block 3
      refine J.region ?_    -- region 14
      refine JL.val (Run.move rfl) ?_    -- s51 := move t11
      refine JL.val (Run.nil rfl) ?_    -- s52 := nilCheck t51
      refine JL.val (Run.field fl59_2 rfl) ?_    -- s53 := field 59 t52 .2
      refine JL.val (Run.load t57 rfl (hok3.blk.cell rfl)) ?_    -- s54 := load 57 [t53]
      refine JL.val (Run.move rfl) ?_    -- s55 := move t13
      refine JL.val (Run.move rfl) ?_    -- s56 := move t13
      refine JL.val (Run.buildSlice rfl (bslice60 _ _ _)) ?_    -- s57 := buildSlice 60 2
      refine JL.val (Run.index Yba.underlying57 c60 (by decide) rfl rfl hhl) ?_    -- s58 := index 57 t54 [t55]
      obtain ⟨l, hl, hll, hok4⟩ := MkOk.setRow (w1 := w3.alloc (.cells [.int .i64 99, .int .i64 (h : Int)].toArray 3)) (v' := .slice (some ⟨w3.heap.size, 0, none⟩) 2 2) (xs' := [99, (h : Int)]) hok3 hrh rfl (World.grownBy_alloc _ _ _)
        (ownsRow_of_blk (base := msb + 1) (size := 1) (Blk.new w3 3 [.int .i64 99, .int .i64 (h : Int)]) (by have := hu3.size; omega) rfl (by unfold maxLen; simp)) (fun b hb => by simp [Value.ownBlock] at hb; exact .inr (by omega))
      refine JL.eff (Run.store c60 rfl rfl rfl hl (by simpa using hll)) ?_    -- sNone := store 60 [t58] := t57
      refine JL.to (fun _ _ h => h) ?_
      rw [show 0 + h * 1 = h by omega]
      refine J.region ?_    -- region 13
      refine JL.val (Run.move rfl) ?_    -- s49 := move t13
      refine JL.val (Run.add (c := ((h + 1 : Nat) : Int)) rfl rfl (by omega) (by omega) (by omega)) ?_    -- s50 := add t49 c:1:i64
      refine JL.val (Run.assign rfl) ?_    -- s13 := assign t50
      refine JL.nil fun a ha => ⟨(h + 1, _), by simp only; omega, ha.sub ⟨rfl, rfl, rfl, rfl, rfl, rfl, rfl, rfl, rfl, trivial⟩, hok4, ?_, by simpa using hl3, by simp only; omega⟩
      refine Upd.reA ((hu3.alloc _).stl (.inl (.inr (.inl rfl))) _) ?_
      rintro b (hb | hb | ⟨r', hr', hb⟩)
      · exact hu3.sub b (.inl hb)
      · exact hu3.sub b (.inr (.inl hb))
      · rcases List.mem_or_eq_of_mem_set hr' with hr' | rfl
        · exact hu3.sub b (.inr (.inr ⟨r', hr', hb⟩))
        · simp [Value.ownBlock] at hb
          have := hu3.size
          exact .inr (by omega)
    · clear hm0 hu0 hb2 hmb hsz2 w2
      rintro ⟨ov, rows⟩ w2 ⟨hok2, hu2, hlen2⟩
      simp only at hok2 hu2 hlen2
      have hst2 := hu2.blk hA.st id
      have hnm2 := hu2.blk hA.nm id
      have hmp2 := hu2.blk hA.mp id
      have hmap2 : w2.heap[bm]? = some (.map (ents (bsOf ms) k).toArray k) := by rw [hu2.keep bm (by have := hA.o1; have := hA.o2; have := hA.o3; omega) id]; exact hA.map
      have hup2 := hA.up.more hok2 hu2
      have ho1 := hA.o1
      have ho2 := hA.o2
      have ho3 := hA.o3
      have ho4 := hA.o4
      have hsz := hu2.size
      have hkey : names[k]? = some (.string ⟨#[97 + k.toUInt8]⟩) := by rcases (by omega : k = 0 ∨ k = 1 ∨ k = 2) with rfl | rfl | rfl <;> rfl
      refine J.seq ?_
      -- region 15 draws
      have hS : Blk w2.drew sb 53 (stCells (.slice none 0 0) bm) ∧ Blk w2.drew nb 54 names := ⟨hst2, hnm2⟩
      refine J.draw (fun x => Blk x sb 53 (stCells (.slice none 0 0) bm) ∧ Blk x nb 54 names) 9 [(0, true), (1, true), (2, true), (3, true), (4, true), (5, true), (6, true), (7, true), (8, true), (9, false)] (by kernel_rfl) (by kernel_rfl) ?_
      refine JS.take (i := 0) rfl hS (fun w' hw' => Run.move rfl) ?_    -- s59 := move t7
      refine JS.take (i := 1) rfl hS (fun w' hw' => Run.nil rfl) ?_    -- s60 := nilCheck t59
      refine JS.take (i := 2) rfl hS (fun w' hw' => Run.field fl53_9 rfl) ?_    -- s61 := field 53 t60 .9
      refine JS.take (i := 3) rfl hS (fun w' hw' => Run.load t34 rfl (hw'.1.cell rfl)) ?_    -- s62 := load 34 [t61]
      refine JS.take (i := 4) rfl hS (fun w' hw' => Run.move rfl) ?_    -- s63 := move t10
      refine JS.take (i := 5) rfl hS (fun w' hw' => Run.indexArr Yba.underlying54 c9 (by decide) rfl rfl (by omega) (by omega)) ?_    -- s64 := index 54 t8 [t63]
      refine JS.take (i := 6) rfl hS (fun w' hw' => Run.load t9 rfl (hw'.2.cell (by simpa using hkey))) ?_    -- s65 := load 9 [t64]
      refine JS.take (i := 7) rfl hS (fun w' hw' => Run.build rfl (build62 _ _)) ?_    -- s66 := build 62
      refine JS.take (i := 8) rfl hS (fun w' hw' => Run.move rfl) ?_    -- s67 := move t11
      refine JS.eff (i := 9) rfl (Run.mapNew (w := w2.drew) Yba.underlying34 rfl rfl rfl hmap2 (chk0 _ _) (find_none _ _ _ hk3)) (fun h => absurd rfl h) ?_    -- sNone := mapUpdate 34 t62 t66 t67
      refine JS.to (fun _ _ h => h) ?_
      rw [show (ents (bsOf ms) k).toArray.push ⟨.agg #[.string ⟨#[97 + k.toUInt8]⟩, .int .i64 1], .pointer (some ⟨w1.heap.size, 0, none⟩), k⟩ = (ents (bsOf (updM ms k ⟨w1.heap.size, ov, rows⟩)) (k + 1)).toArray from ents_push ms ⟨w1.heap.size, ov, rows⟩ k]
      have hmp3 : Blk (sto w2.drew bm (.map (ents (bsOf (updM ms k ⟨w1.heap.size, ov, rows⟩)) (k + 1)).toArray (k + 1))) msb 55 (mptrs ms k) := Blk.sto (w := w2.drew) hmp2 (by omega)
      refine J.region ?_    -- region 16
      refine JL.val (Run.move rfl) ?_    -- s68 := move t9
      refine JL.val (Run.move rfl) ?_    -- s69 := move t10
      refine JL.val (Run.move rfl) ?_    -- s70 := move t11
      refine JL.val (Run.index Yba.underlying26 c55 (by decide) rfl rfl hk3) ?_    -- s71 := index 26 t68 [t69]
      refine JL.eff (Run.store c55 rfl rfl rfl hmp3 (by simp [mptrs]; omega)) ?_    -- sNone := store 55 [t71] := t70
      refine JL.to (fun _ _ h => h) ?_
      rw [show 0 + k * 1 = k by omega, show (mptrs ms k).set k (.pointer (some ⟨w1.heap.size, 0, none⟩)) = mptrs (updM ms k ⟨w1.heap.size, ov, rows⟩) (k + 1) from mptrs_set ms ⟨w1.heap.size, ov, rows⟩ k hk3]
      refine J.region ?_    -- region 6
      refine JL.val (Run.move rfl) ?_    -- s27 := move t10
      refine JL.val (Run.add (c := ((k + 1 : Nat) : Int)) rfl rfl (by omega) (by omega) (by omega)) ?_    -- s28 := add t27 c:1:i64
      refine JL.val (Run.assign rfl) ?_    -- s10 := assign t28
      have hbmlt : bm < w2.drew.heap.size := by show bm < w2.heap.size; omega
      refine JL.nil fun a ha => ⟨(k + 1, updM ms k ⟨w1.heap.size, ov, rows⟩), by simp only; omega, ha.sub ⟨rfl, rfl, rfl, rfl, rfl, rfl, trivial⟩, ⟨?_, hA.lo, ho1, ho2, ho3, by simp; omega, ?_, ?_, ?_, hmp3.stl _, ?_, ?_⟩, by simp only; omega⟩
      · refine Below.stl ?_ (by omega) _
        have hbz : Below w.heap.size w w2.drew := (hA.below.trans ⟨hu2.os, hu2.tape, hu2.output, hu2.size, fun b hb => hu2.keep b (by omega) id⟩).drew
        exact hbz.trans ⟨rfl, rfl, rfl, by simp, fun b hb => sto_other (by omega)⟩
      · exact (Blk.sto (w := w2.drew) hst2 (by omega)).stl_ne (by omega)
      · rw [stl_other (by omega), sto_same hbmlt]
      · exact (Blk.sto (w := w2.drew) hnm2 (by omega)).stl_ne (by omega)
      · exact hup2.keep fun b hb1 hb2 => by rw [stl_other (by omega), sto_other (by omega)]; rfl
      · intro j hj
        simp only [updM]
        split
        · rename_i e; rw [e]; exact hlen2
        · exact hA.len j (by omega)
  · clear hA0 wA
    rintro ms w1 hA
    have ho1 := hA.o1
    have ho2 := hA.o2
    have ho3 := hA.o3
    have ho4 := hA.o4
    refine J.seq ?_
    refine J.region ?_    -- region 17
    refine JL.val (Run.move rfl) ?_    -- s72 := move t0
    refine JL.val (Run.len Yba.underlying22 rfl) ?_    -- s73 := builtin Builtin.len(t72) [22]
    refine JL.val (Run.make (l := 0) (zs := [.pointer none]) el27 z63 rfl rfl rfl (by omega) (by omega) (by omega)) ?_    -- s74 := makeSlice 27 c:0:i64 t73
    refine JL.val (Run.assign rfl) ?_    -- s14 := assign t74
    refine JL.to (fun _ _ h => h) ?_
    have hB0 : PartB w1 (w1.alloc (.cells (rep fs.length [.pointer none]).toArray 63)) bm sb (bsOf ms) fs 0 (.slice none 0 0) (.slice (some ⟨w1.heap.size, 0, none⟩) 0 fs.length) (fun _ => 0) (fun _ => 0) := by
      refine ⟨?_, hA.st.alloc _, hA.st.lt, ⟨[], World.ownsRow_made w1 _ _ (Nat.le_refl _) (by unfold maxLen; omega) (by simp [rep_length]), fun j h => absurd h (by omega)⟩, ⟨[], World.ownsRow_nil _ _ _ _, fun j f h => absurd h (by omega)⟩, fun b _ => by simp [Value.ownBlock], fun j f h => absurd h (by omega)⟩
      refine Upd.reA ((Upd.refl w1 (fun b => b = sb)).alloc _) ?_
      rintro b (hb | hb | hb)
      · exact .inl hb
      · simp [Value.ownBlock] at hb; exact .inr (by omega)
      · simp [Value.ownBlock] at hb
    have hN1 : w1.heap.size < (w1.alloc (.cells (rep fs.length [.pointer none]).toArray 63)).heap.size := by simp
    generalize w1.alloc (.cells (rep fs.length [.pointer none]).toArray 63) = w2 at *
    refine J.seq ?_
    refine J.seq ?_
    refine J.region ?_    -- region 18
    refine JL.val (Run.move rfl) ?_    -- s75 := move t0
    refine JL.val (Run.len Yba.underlying22 rfl) ?_    -- s76 := builtin Builtin.len(t75) [22]
    refine JL.val (Run.move rfl) ?_    -- s77 := move c:0:i64
    refine JL.to (fun _ _ h => h) ?_
    refine J.block ?_    -- block 4
    refine J.loop (ι := (Nat × Value × Value) × (Nat → Nat) × (Nat → Nat)) (fun x => [(7, .pointer (some ⟨sb, 0, none⟩)), (9, .slice (some ⟨msb, 0, none⟩) 3 3), (14, x.1.2.2), (75, .slice va fs.length vc), (76, .int .i64 (fs.length : Int)), (77, .int .i64 (x.1.1 : Int))])
      (fun x w' => PartB w1 w' bm sb (bsOf ms) fs x.1.1 x.1.2.1 x.1.2.2 x.2.1 x.2.2 ∧ x.1.1 ≤ fs.length) (fun x => fs.length - x.1.1) ((0, .slice none 0 0, .slice (some ⟨w1.heap.size, 0, none⟩) 0 fs.length), (fun _ => 0), (fun _ => 0)) ⟨rfl, rfl, rfl, rfl, rfl, rfl, trivial⟩ ⟨hB0, by simp⟩ ?_
    clear hB0 hN1 w2
    rintro ⟨⟨i, fv, rv⟩, rp, sl⟩ w2 ⟨hB, hi⟩
    simp only at hB hi
    have hbel2 : Below w.heap.size w w2 := hA.below.trans (hB.upd.below hA.below.size (fun b hb => by have := hA.lo; omega))
    refine J.seq ?_
    refine J.region ?_    -- region 19
    refine JL.val (Run.lss rfl rfl) ?_    -- s78 := lss t77 t76
    refine JL.to (fun _ _ h => h) ?_
    refine J.seq ?_
    refine J.cond rfl (fun hc => ?_) (fun hc => ?_)    -- if t78
    rotate_left
    · have hil : i = fs.length := by have := of_decide_eq_false hc; simp only at this; omega
      subst hil
      refine J.exitTo (fun _ _ h => h) ?_    -- exit 4
      refine J.seq ?_
      refine J.region ?_    -- region 31
      refine JL.val (Run.move rfl) ?_    -- s132 := move t7
      refine JL.val (Run.move rfl) ?_    -- s133 := move t9
      refine JL.val (Run.move rfl) ?_    -- s134 := move t14
      refine JL.val (Run.assign rfl) ?_    -- s4 := assign t132
      refine JL.val (Run.assign rfl) ?_    -- s5 := assign t133
      refine JL.val (Run.assign rfl) ?_    -- s6 := assign t134
      refine JL.to (fun _ _ h => h) ?_
      refine J.ret3 Yba.f6 R (fun _ _ h => h) rfl rfl rfl rfl ?_
      have hlo := hA.lo
      have hw12 := hB.upd.size
      have hZ : ∀ c, foots ms c → msb + 1 ≤ c ∧ c < w1.heap.size := by
        rintro c ⟨k, hk, hc⟩
        exact (hA.up.ok k hk).lt hc
      have hok : MksOk w2 (msb + 1) ms := by
        have h1 := hA.up.keep (w' := w2) (fun c h1 h2 => hB.upd.keep c h2 (by omega))
        exact ⟨h1.ok, h1.sep⟩
      obtain ⟨xs, hxs, hxsp⟩ := hB.rs
      obtain ⟨ys, hys, hysp⟩ := hB.fol
      refine hR w2 (msb + 1) sb bm msb rp sl ms fv rv hbel2 (by omega) (by omega) hok ?_ hA.len
      refine ⟨fun h => ?_, fun h => ?_, fun h => ?_, hB.st.cell rfl, hB.st.cell rfl, ?_, fun k hk => ?_, ownsRow_slice hys, ownsRow_slice hxs, fun j f hf => ?_, fun j f hf => ?_, fun j f hf => ?_⟩
      · have := hZ _ h; omega
      · have := hZ _ h; omega
      · have := hZ _ h; omega
      · rw [hB.upd.keep bm (by omega) (by omega)]
        exact hA.map
      · have h0 : w1.cell? ⟨msb, k, none⟩ = some (.pointer (some ⟨bsOf ms k, 0, none⟩)) := hA.mp.cell (by
          rcases (by omega : k = 0 ∨ k = 1 ∨ k = 2) with rfl | rfl | rfl <;> rfl)
        exact hB.upd.cell h0 (by simp only; omega)
      · have hj : j < fs.length := by
          rcases Nat.lt_or_ge j fs.length with h | h
          · exact h
          · simp [List.getElem?_eq_none h] at hf
        obtain ⟨fb, c, hfv⟩ := ownsRow_some hys (by omega)
        subst hfv
        have hge := (hys.lt fb rfl).1
        obtain ⟨h1, h2⟩ := hysp j f hj hf
        exact ⟨fb, c, fun h => by have := hZ _ h; omega, rfl, ownsRow_cell hys h2, ownsRow_cell hys h1⟩
      · have hj : j < fs.length := by
          rcases Nat.lt_or_ge j fs.length with h | h
          · exact h
          · simp [List.getElem?_eq_none h] at hf
        obtain ⟨rb, c, hrv⟩ := ownsRow_some hxs (by omega)
        subst hrv
        have hge := (hxs.lt rb rfl).1
        exact ⟨rb, c, fun h => by have := hZ _ h; omega, rfl, ownsRow_cell hxs (hxsp j hj)⟩
      · have hj : j < fs.length := by
          rcases Nat.lt_or_ge j fs.length with h | h
          · exact h
          · simp [List.getElem?_eq_none h] at hf
        obtain ⟨q1, q2, _, q4, _, l, q6, q7⟩ := hB.recs j f hj hf
        exact ⟨fun h => by have := hZ _ h; omega, fun h => by have := hZ _ h; omega, q6.lt, q1.cell rfl, fun t h ht => ⟨q6.cell (q7 t h ht).1, q6.cell (q7 t h ht).2⟩⟩
    have hlt : i < fs.length := by have := of_decide_eq_true hc; simp only at this; omega
    obtain ⟨f, hfi⟩ : ∃ f, fs[i]? = some f := ⟨fs[i], List.getElem?_eq_getElem hlt⟩
    obtain ⟨himg, hu, b, o, rfl, hc0, hc1⟩ := hf i f hfi
    obtain ⟨h256, ha, hcap, hhv, hcells⟩ := hu
    have hfl4 : f.hs.length ≤ total fs := by
      have := total_snoc fs i f hfi
      have := total_take_le fs (i + 1)
      omega
    have hhl : f.hosts.length = f.hs.length := by simp [Fo.hosts]
    have hk3 : f.img % 3 < 3 := Nat.mod_lt _ (by omega)
    refine J.skipTo (fun _ _ h => h) ?_
    refine J.seq ?_
    refine J.block ?_    -- block 5
    refine J.seq ?_
    refine J.region ?_    -- region 20
    refine JL.val (Run.index Yba.underlying22 c33 (by decide) rfl rfl hlt) ?_    -- s79 := index 22 t75 [t77]
    refine JL.val (Run.loadA (cs := [.int .u8 (f.img : Int), f.hv]) ta33 rfl ?_) ?_    -- s80 := load 33 [t79]
    · intro j v hj
      match j with
      | 0 => cases hj; exact hbel2.cell1 hc0
      | 1 => cases hj; exact hbel2.cell1 hc1
      | j + 2 => simp at hj
    refine JL.val (Run.alloc (l := [.int .u8 0, .slice none 0 0]) z33 rfl) ?_    -- s16 := alloc 33
    refine JL.eff (Run.storeNew (cs := [.int .u8 (f.img : Int), f.hv]) c33 (by simp) rfl rfl (by rw [hhv]; simp [Value.oneCell']) rfl) ?_    -- sNone := store 33 [t16] := t80
    refine JL.to (fun _ _ h => h) ?_
    have htb3 := Blk.new w2 33 [.int .u8 (f.img : Int), f.hv]
    have hu3 : Upd w2 (w2.alloc (.cells [.int .u8 (f.img : Int), f.hv].toArray 33)) (fun _ => False) (fun _ => False) := (Upd.refl _ _).alloc _
    generalize w2.alloc (.cells [.int .u8 (f.img : Int), f.hv].toArray 33) = w3 at *
    refine J.seq ?_
    refine J.region ?_    -- region 21
    refine JL.val (Run.build rfl (build70 _)) ?_    -- s81 := build 70 []
    refine JL.val (Run.box rfl rfl) ?_    -- s82 := box 70 t81
    refine JL.val (Run.assign rfl) ?_    -- s17 := assign t82
    refine JL.to (fun _ _ h => h) ?_
    have hrb4 := Blk.new w3 70 (recCells (.slice none 0 0))
    have htb4 := htb3.alloc (.cells (recCells (.slice none 0 0)).toArray 70)
    have hu4 := hu3.alloc (.cells (recCells (.slice none 0 0)).toArray 70)
    have hsz4 : w3.heap.size < (w3.alloc (.cells (recCells (.slice none 0 0)).toArray 70)).heap.size := by simp
    generalize w3.alloc (.cells (recCells (.slice none 0 0)).toArray 70) = w4 at *
    refine J.seq ?_
    refine J.region ?_    -- region 22
    refine JL.val (Run.field fl33_1 rfl) ?_    -- s83 := field 33 t16 .1
    refine JL.val (Run.load (v := .slice ha f.hs.length hcap) t23 rfl (by rw [← hhv]; exact htb4.cell rfl)) ?_    -- s84 := load 23 [t83]
    refine JL.val (Run.len Yba.underlying23 rfl) ?_    -- s85 := builtin Builtin.len(t84) [23]
    refine JL.val (Run.make (zs := [.int .i64 0, .int .i64 0]) el67 z72 rfl rfl rfl (by omega) (by omega) (by omega)) ?_    -- s86 := makeSlice 67 t85 t85
    refine JL.val (Run.assign rfl) ?_    -- s18 := assign t86
    refine JL.to (fun _ _ h => h) ?_
    have hsl5 := Blk.new w4 72 (rep f.hs.length [.int .i64 0, .int .i64 0])
    have hrb5 := hrb4.alloc (.cells (rep f.hs.length [.int .i64 0, .int .i64 0]).toArray 72)
    have htb5 := htb4.alloc (.cells (rep f.hs.length [.int .i64 0, .int .i64 0]).toArray 72)
    have hu5 := hu4.alloc (.cells (rep f.hs.length [.int .i64 0, .int .i64 0]).toArray 72)
    generalize w4.alloc (.cells (rep f.hs.length [.int .i64 0, .int .i64 0]).toArray 72) = w5 at *
    refine J.mid (ι := List Value) (fun _ => [(7, .pointer (some ⟨sb, 0, none⟩)), (9, .slice (some ⟨msb, 0, none⟩) 3 3), (14, rv), (16, .pointer (some ⟨w2.heap.size, 0, none⟩)), (17, .pointer (some ⟨w3.heap.size, 0, none⟩)), (18, .slice (some ⟨w4.heap.size, 0, none⟩) f.hs.length f.hs.length),
        (75, .slice (some ⟨b, o, none⟩) fs.length vc), (76, .int .i64 (fs.length : Int)), (77, .int .i64 (i : Int))])
      (fun l w' => w' = Fw.stl w5 w4.heap.size l ∧ ∀ (t h : Nat), f.hosts[t]? = some h → l[t * 2]? = some (.int .i64 (h : Int)) ∧ l[t * 2 + 1]? = some (.int .i64 0)) ?_ ?_
    · refine J.seq ?_
      refine J.region ?_    -- region 23
      refine JL.val (Run.assign rfl) ?_    -- s19 := assign c:0:i64
      refine JL.to (fun _ _ h => h) ?_
      refine J.block ?_    -- block 6
      refine J.loop (ι := Nat × List Value) (fun x => [(7, .pointer (some ⟨sb, 0, none⟩)), (9, .slice (some ⟨msb, 0, none⟩) 3 3), (14, rv), (16, .pointer (some ⟨w2.heap.size, 0, none⟩)), (17, .pointer (some ⟨w3.heap.size, 0, none⟩)), (18, .slice (some ⟨w4.heap.size, 0, none⟩) f.hs.length f.hs.length),
          (75, .slice (some ⟨b, o, none⟩) fs.length vc), (76, .int .i64 (fs.length : Int)), (77, .int .i64 (i : Int)), (19, .int .i64 (x.1 : Int))])
        (fun x w' => w' = Fw.stl w5 w4.heap.size x.2 ∧ x.1 ≤ f.hs.length ∧ x.2.length = f.hs.length * 2 ∧ (∀ t, t < f.hs.length → x.2[t * 2 + 1]? = some (.int .i64 0)) ∧ (∀ (t h : Nat), t < x.1 → f.hosts[t]? = some h → x.2[t * 2]? = some (.int .i64 (h : Int))))
        (fun x => f.hs.length - x.1) (0, rep f.hs.length [.int .i64 0, .int .i64 0]) ⟨rfl, rfl, rfl, rfl, rfl, rfl, rfl, rfl, rfl, rfl, trivial⟩
        ⟨(stl_self hsl5).symm, by simp, by simp [rep_length], fun t ht => by rw [rep_get _ _ _ (by simp; omega)]; simp, fun t h ht => absurd ht (by simp)⟩ ?_
      rintro ⟨j, l⟩ w6 ⟨rfl, hj, hll, hodd, hev⟩
      simp only at hj hll hodd hev
      have hsl6 := hsl5.stl l
      have htb6 : Blk (Fw.stl w5 w4.heap.size l) w2.heap.size 33 [.int .u8 (f.img : Int), f.hv] := htb5.stl_ne (by have := htb4.lt; omega)
      have hbel6 : Below w.heap.size w (Fw.stl w5 w4.heap.size l) := by
        have h1 := hu5.stl (b := w4.heap.size) (.inr hu4.size) l
        exact hbel2.trans ⟨h1.os, h1.tape, h1.output, h1.size, fun k hk => h1.keep k (Nat.lt_of_lt_of_le hk hbel2.size) id⟩
      refine J.seq ?_
      refine J.seq ?_
      refine J.region ?_    -- region 24
      refine JL.val (Run.move rfl) ?_    -- s87 := move t19
      refine JL.val (Run.field fl33_1 rfl) ?_    -- s88 := field 33 t16 .1
      refine JL.val (Run.load (v := .slice ha f.hs.length hcap) t23 rfl (by rw [← hhv]; exact htb6.cell rfl)) ?_    -- s89 := load 23 [t88]
      refine JL.val (Run.len Yba.underlying23 rfl) ?_    -- s90 := builtin Builtin.len(t89) [23]
      refine JL.val (Run.lss rfl rfl) ?_    -- s91 := lss t87 t90
      refine JL.to (fun _ _ h => h) ?_
      refine J.cond rfl (fun hc => ?_) (fun hc => ?_)    -- if t91
      rotate_left
      · have hjl : j = f.hs.length := by have := of_decide_eq_false hc; simp only at this; omega
        subst hjl
        refine J.exit fun a ha => ⟨l, ha.sub ⟨rfl, rfl, rfl, rfl, rfl, rfl, rfl, rfl, rfl, trivial⟩, rfl, fun t h ht => ?_⟩
        have htl : t < f.hs.length := by
          rcases Nat.lt_or_ge t f.hs.length with h' | h'
          · exact h'
          · rw [List.getElem?_eq_none (by omega)] at ht; cases ht
        exact ⟨hev t h htl ht, hodd t htl⟩
      have hjl : j < f.hs.length := by have := of_decide_eq_true hc; simp only at this; omega
      obtain ⟨x, hxj⟩ : ∃ x, f.hs[j]? = some x := ⟨f.hs[j], List.getElem?_eq_getElem hjl⟩
      obtain ⟨hb', ho', rfl, hxc⟩ := hcells j x hxj
      have hx256 := h256 x (List.mem_of_getElem? hxj)
      refine J.skipTo (fun _ _ h => h) ?_
      refine J.seq ?_
      refine J.block ?_    -- block 7
      refine J.region ?_    -- region 26
      refine JL.val (Run.move rfl) ?_    -- s94 := move t18
      refine JL.val (Run.move rfl) ?_    -- s95 := move t19
      refine JL.val (Run.field fl33_1 rfl) ?_    -- s96 := field 33 t16 .1
      refine JL.val (Run.load (v := .slice (some ⟨hb', ho', none⟩) f.hs.length hcap) t23 rfl (by rw [← hhv]; exact htb6.cell rfl)) ?_    -- s97 := load 23 [t96]
      refine JL.val (Run.move rfl) ?_    -- s98 := move t19
      refine JL.val (Run.index Yba.underlying23 c5 (by decide) rfl rfl hjl) ?_    -- s99 := index 23 t97 [t98]
      refine JL.val (Run.load t5 rfl (by simpa using hbel6.cell1 hxc)) ?_    -- s100 := load 5 [t99]
      refine JL.val (Run.remN (b := 16) rfl rfl (by decide)) ?_    -- s101 := rem t100 c:16:u8
      refine JL.val (Run.conv64 Yba.underlying3 ⟨_, Yba.underlying5⟩ rfl (by omega) (by omega)) ?_    -- s102 := conv 5>3 t101
      refine JL.val (Run.index Yba.underlying67 c72 (by decide) rfl rfl hjl) ?_    -- s103 := index 67 t94 [t95]
      refine JL.val (Run.field fl72_0 rfl) ?_    -- s104 := field 72 t103 .0
      refine JL.eff (Run.store c3 rfl rfl rfl hsl6 (by omega)) ?_    -- sNone := store 3 [t104] := t102
      refine JL.to (fun _ _ h => h) ?_
      refine J.region ?_    -- region 25
      refine JL.val (Run.move rfl) ?_    -- s92 := move t19
      refine JL.val (Run.add (c := ((j + 1 : Nat) : Int)) rfl rfl (by omega) (by omega) (by omega)) ?_    -- s93 := add t92 c:1:i64
      refine JL.val (Run.assign rfl) ?_    -- s19 := assign t93
      refine JL.nil fun a ha => ⟨(j + 1, l.set (0 + j * 2 + 0) (.int .i64 ((x % 16 : Nat) : Int))), by simp only; omega, ha.sub ⟨rfl, rfl, rfl, rfl, rfl, rfl, rfl, rfl, rfl, rfl, trivial⟩, ?_, by simp only; omega, by simpa using hll, fun t ht => ?_, fun t h ht hth => ?_⟩
      · exact setRow_setRow _ _ _ _
      · rw [List.getElem?_set_ne (by omega)]; exact hodd t ht
      · simp only at ht
        by_cases htj : t = j
        · subst htj
          rw [show 0 + t * 2 + 0 = t * 2 by omega, List.getElem?_set_self (by omega)]
          simp [Fo.hosts, hxj] at hth
          rw [← hth]
        · rw [List.getElem?_set_ne (by omega)]; exact hev t h (by omega) hth
    · rintro l w6 ⟨rfl, hlf⟩
      have hsl6 := hsl5.stl l
      have hrb6 : Blk (Fw.stl w5 w4.heap.size l) w3.heap.size 70 (recCells (.slice none 0 0)) := hrb5.stl_ne (by omega)
      have htb6 : Blk (Fw.stl w5 w4.heap.size l) w2.heap.size 33 [.int .u8 (f.img : Int), f.hv] := htb5.stl_ne (by have := htb4.lt; omega)
      have hu6 := hu5.stl (b := w4.heap.size) (.inr hu4.size) l
      have hsz34 : w2.heap.size < w3.heap.size := htb3.lt
      generalize Fw.stl w5 w4.heap.size l = w6 at *
      refine J.seq ?_
      refine J.region ?_    -- region 27
      refine JL.val (Run.move rfl) ?_    -- s105 := move t17
      refine JL.val (Run.move rfl) ?_    -- s106 := move t18
      refine JL.val (Run.nil rfl) ?_    -- s107 := nilCheck t105
      refine JL.val (Run.field fl70_12 rfl) ?_    -- s108 := field 70 t107 .12
      refine JL.eff (Run.store c67 rfl rfl rfl hrb6 (by simp [recCells])) ?_    -- sNone := store 67 [t108] := t106
      refine JL.to (fun _ _ h => h) ?_
      have hset : (recCells (.slice none 0 0)).set (0 + 12) (.slice (some ⟨w4.heap.size, 0, none⟩) f.hs.length f.hs.length) = recCells (.slice (some ⟨w4.heap.size, 0, none⟩) f.hs.length f.hs.length) := rfl
      rw [hset]
      have hrb7 := hrb6.stl (recCells (.slice (some ⟨w4.heap.size, 0, none⟩) f.hs.length f.hs.length))
      have hsl7 := hsl6.stl_ne (b := w3.heap.size) (l' := recCells (.slice (some ⟨w4.heap.size, 0, none⟩) f.hs.length f.hs.length)) (by omega)
      have htb7 := htb6.stl_ne (b := w3.heap.size) (l' := recCells (.slice (some ⟨w4.heap.size, 0, none⟩) f.hs.length f.hs.length)) (by omega)
      have hu7 := hu6.stl (b := w3.heap.size) (.inr hu3.size) (recCells (.slice (some ⟨w4.heap.size, 0, none⟩) f.hs.length f.hs.length))
      generalize Fw.stl w6 w3.heap.size (recCells (.slice (some ⟨w4.heap.size, 0, none⟩) f.hs.length f.hs.length)) = w7 at *
      have hB7 := hB.ext hu7
      clear hset hrb6 hsl6 htb6 hu6 hrb5 htb5 hsl5 hu5 hrb4 htb4 hu4 hu3 htb3
      -- what is written from here on lies below w2's size; the new record and its slots do not
      have hT2 : ∀ c, Tset sb fv rv c → c < w2.heap.size := fun c hc => Tset.lt hB hc
      have hmsb7 : w7.cell? ⟨msb, f.img % 3, none⟩ = some (.pointer (some ⟨bsOf ms (f.img % 3), 0, none⟩)) := by
        have h0 : w1.cell? ⟨msb, f.img % 3, none⟩ = some (.pointer (some ⟨bsOf ms (f.img % 3), 0, none⟩)) := hA.mp.cell (by
          rcases (by omega : f.img % 3 = 0 ∨ f.img % 3 = 1 ∨ f.img % 3 = 2) with h | h | h <;> rw [h] <;> rfl)
        exact hB7.upd.cell h0 (by simp only; omega)
      obtain ⟨xs, hxs, hxsp⟩ := hB7.rs
      obtain ⟨ys, hys, hysp⟩ := hB7.fol
      have hbase : w1.heap.size ≤ w7.heap.size := hB7.upd.size
      refine J.seq ?_
      refine J.region ?_    -- region 28
      refine JL.val (Run.move rfl) ?_    -- s109 := move t14
      refine JL.val (Run.move rfl) ?_    -- s110 := move t17
      refine JL.val (Run.buildSlice rfl (buildSlice1 el27 rfl)) ?_    -- s111 := buildSlice 27 1 [(0,(Operand.tmp 110))]
      have hnew8 := Blk.new w7 63 [.pointer (some ⟨w3.heap.size, 0, none⟩)]
      have hxs8 := hxs.alloc (.cells [.pointer (some ⟨w3.heap.size, 0, none⟩)].toArray 63)
      have hu8 := (Upd.refl w7 (Tset sb fv rv)).alloc (.cells [.pointer (some ⟨w3.heap.size, 0, none⟩)].toArray 63)
      have hu8F0 : Upd w7 (w7.alloc (.cells [.pointer (some ⟨w3.heap.size, 0, none⟩)].toArray 63)) (fun _ => False) (fun _ => False) := (Upd.refl _ _).alloc _
      generalize w7.alloc (.cells [.pointer (some ⟨w3.heap.size, 0, none⟩)].toArray 63) = w8 at *
      obtain ⟨rg, rcap, w9, hrun9, hown9, hg9, hb9, hlt9⟩ := append_ex (w := w8) (T := 27) (ad := ⟨w7.heap.size, 0, none⟩) (m := 1) (c := 1) (news := [.pointer (some ⟨w3.heap.size, 0, none⟩)]) el27 hxs8 (by simp)
        (fun q u hq => by rw [addr_add, Nat.zero_add]; exact hnew8.cell hq) (by simp [Value.oneCell']) (by omega) (by omega) (by omega) (Nat.le_trans hbase hu8.size)
      refine JL.val (Run.append rfl rfl hrun9) ?_    -- s112 := builtin Builtin.append(t109, t111) [27,27]
      refine JL.val (Run.assign rfl) ?_    -- s14 := assign t112
      refine JL.to (fun _ _ h => h) ?_
      have hrgT : rv.ownBlock = some rg ∨ w7.heap.size ≤ rg := hb9.imp id (fun e => by have := hu8.size; omega)
      have hu9 : Upd w7 w9 (Tset sb fv rv) (Tset sb fv (.slice (some ⟨rg, 0, none⟩) (i + 1) rcap)) := by
        refine Upd.reA (hu8.grown (A' := Tset sb fv rv) hg9 (fun c hc => .inr (.inl hc)) (fun c hc => .inl hc)) ?_
        rintro c (hc | hc | hc)
        · exact .inl (.inl hc)
        · simp [Value.ownBlock] at hc
          subst hc
          exact hrgT.imp (fun e => .inr (.inl e)) id
        · exact .inl (.inr (.inr hc))
      have hu8F : Upd w7 w8 (fun _ => False) (fun _ => False) := hu8F0
      have hrvge : ∀ c, rv.ownBlock = some c → w1.heap.size ≤ c ∧ c < w2.heap.size := fun c hc => ⟨(hxs.lt c hc).1, hT2 c (.inr (.inl hc))⟩
      have hfvge : ∀ c, fv.ownBlock = some c → w1.heap.size ≤ c ∧ c < w2.heap.size := fun c hc => ⟨(hys.lt c hc).1, hT2 c (.inr (.inr hc))⟩
      have hsbw : sb < w1.heap.size := hB.sbl
      have hw12 := hB.upd.size
      have hsz7 : w2.heap.size ≤ w7.heap.size := hu7.size
      -- what is there at w7 and lies in none of the three blocks is there at w9
      have hkeep9 : ∀ c, c < w7.heap.size → rv.ownBlock ≠ some c → w9.heap[c]? = w7.heap[c]? := fun c hc hn => by
        rw [hg9.block c (Nat.lt_of_lt_of_le hc hu8F.size) (fun e => hn e.symm), hu8F.keep c hc id]
      have hst9 : Blk w9 sb 53 (stCells fv bm) := hB7.st.of_eq (hkeep9 sb hB7.st.lt (fun e => by have := hrvge sb e; omega))
      have htb9 : Blk w9 w2.heap.size 33 [.int .u8 (f.img : Int), f.hv] := htb7.of_eq (hkeep9 _ htb7.lt (fun e => by have := hrvge _ e; omega))
      have hmsb9 : w9.cell? ⟨msb, f.img % 3, none⟩ = some (.pointer (some ⟨bsOf ms (f.img % 3), 0, none⟩)) := by
        rw [World.cell?_of_block (hkeep9 msb (World.block_lt_of_cell? _ _ hmsb7) (fun e => by have := hrvge _ e; omega))]; exact hmsb7
      have hys9 : w9.ownsRow w1.heap.size 74 8 fv i ys := ownsRow_keep hys (fun c hc => hkeep9 c (hys.lt c hc).2 (fun e => hB.ne c e hc))
      have hsz9 : w7.heap.size ≤ w9.heap.size := hu9.size
      -- region 29 draws
      have hS : Blk w9.drew sb 53 (stCells fv bm) ∧ Blk w9.drew w2.heap.size 33 [.int .u8 (f.img : Int), f.hv] ∧ w9.drew.cell? ⟨msb, f.img % 3, none⟩ = some (.pointer (some ⟨bsOf ms (f.img % 3), 0, none⟩)) := ⟨hst9, htb9, hmsb9⟩
      refine J.draw (fun x => Blk x sb 53 (stCells fv bm) ∧ Blk x w2.heap.size 33 [.int .u8 (f.img : Int), f.hv] ∧ x.cell? ⟨msb, f.img % 3, none⟩ = some (.pointer (some ⟨bsOf ms (f.img % 3), 0, none⟩))) 18 [(0, true), (1, true), (2, true), (3, true), (4, true), (5, true), (6, true), (7, true), (8, true), (9, true), (10, true), (11, true), (12, true), (13, true), (14, false), (15, false), (16, false), (17, true), (18, false)] (by kernel_rfl) (by kernel_rfl) ?_
      refine JS.take (i := 0) rfl hS (fun w' hw' => Run.move rfl) ?_    -- s113 := move t7
      refine JS.take (i := 1) rfl hS (fun w' hw' => Run.move rfl) ?_    -- s114 := move t7
      refine JS.take (i := 2) rfl hS (fun w' hw' => Run.nil rfl) ?_    -- s115 := nilCheck t114
      refine JS.take (i := 3) rfl hS (fun w' hw' => Run.field fl53_4 rfl) ?_    -- s116 := field 53 t115 .4
      refine JS.take (i := 4) rfl hS (fun w' hw' => Run.load t41 rfl (hw'.1.cell rfl)) ?_    -- s117 := load 41 [t116]
      refine JS.take (i := 5) rfl hS (fun w' hw' => Run.move rfl) ?_    -- s118 := move t17
      refine JS.take (i := 6) rfl hS (fun w' hw' => Run.move rfl) ?_    -- s119 := move t9
      refine JS.take (i := 7) rfl hS (fun w' hw' => Run.field fl33_0 rfl) ?_    -- s120 := field 33 t16 .0
      refine JS.take (i := 8) rfl hS (fun w' hw' => Run.load t5 rfl (hw'.2.1.cell rfl)) ?_    -- s121 := load 5 [t120]
      refine JS.take (i := 9) rfl hS (fun w' hw' => Run.conv64 Yba.underlying3 ⟨_, Yba.underlying5⟩ rfl (by omega) (by omega)) ?_    -- s122 := conv 5>3 t121
      refine JS.take (i := 10) rfl hS (fun w' hw' => Run.remN (b := 3) rfl rfl (by decide)) ?_    -- s123 := rem t122 c:3:i64
      refine JS.take (i := 11) rfl hS (fun w' hw' => Run.index Yba.underlying26 c55 (by decide) rfl rfl hk3) ?_    -- s124 := index 26 t119 [t123]
      refine JS.take (i := 12) rfl hS (fun w' hw' => Run.load t55 rfl (by simpa using hw'.2.2)) ?_    -- s125 := load 55 [t124]
      refine JS.take (i := 13) rfl hS (fun w' hw' => Run.build rfl (build74 _ _ _)) ?_    -- s126 := build 74 [(0,(Operand.tmp 118)),(1,(Operand.tmp 125))]
      have hnewA := Blk.new w9.drew 74 (folCells ⟨w3.heap.size, 0, none⟩ ⟨bsOf ms (f.img % 3), 0, none⟩)
      have huAF : Upd w9 (w9.drew.alloc (.cells (folCells ⟨w3.heap.size, 0, none⟩ ⟨bsOf ms (f.img % 3), 0, none⟩).toArray 74)) (fun _ => False) (fun _ => False) := ((Upd.refl w9 _).drew).alloc _
      refine JS.loud (i := 14) rfl (Run.buildSlice rfl (bslice41 _ _ _)) (fun _ => ⟨huAF.blk hst9 id, huAF.blk htb9 id, huAF.cell hmsb9 id⟩) ?_    -- s127 := buildSlice 41 1 [(0,(Operand.tmp 126))]
      generalize w9.drew.alloc (.cells (folCells ⟨w3.heap.size, 0, none⟩ ⟨bsOf ms (f.img % 3), 0, none⟩).toArray 74) = wA at *
      have hysA : wA.ownsRow w1.heap.size 74 8 fv i ys := ownsRow_keep hys9 (fun c hc => huAF.keep c (hys9.lt c hc).2 id)
      rw [show w9.drew.heap.size = w9.heap.size from rfl] at hnewA ⊢
      have hszA : w9.heap.size < wA.heap.size := hnewA.lt
      obtain ⟨fg, fcap, wE, hrunE, hownE, hgE, hbE, hltE⟩ := append_ex (w := wA) (T := 41) (ad := ⟨w9.heap.size, 0, none⟩) (m := 1) (c := 1) (news := folCells ⟨w3.heap.size, 0, none⟩ ⟨bsOf ms (f.img % 3), 0, none⟩) el41 hysA (by simp [folCells])
        (fun q u hq => by rw [addr_add, Nat.zero_add]; exact hnewA.cell hq) (by simp [folCells, Value.oneCell']) (by omega) (by omega) (by omega) (by omega)
      have hkeepE : ∀ c, c < w9.heap.size → fv.ownBlock ≠ some c → wE.heap[c]? = w9.heap[c]? := fun c hc hn => by
        rw [hgE.block c (Nat.lt_of_lt_of_le hc huAF.size) (fun e => hn e.symm), huAF.keep c hc id]
      have hstE : Blk wE sb 53 (stCells fv bm) := hst9.of_eq (hkeepE sb hst9.lt (fun e => by have := hfvge sb e; omega))
      have hSE : Blk wE sb 53 (stCells fv bm) ∧ Blk wE w2.heap.size 33 [.int .u8 (f.img : Int), f.hv] ∧ wE.cell? ⟨msb, f.img % 3, none⟩ = some (.pointer (some ⟨bsOf ms (f.img % 3), 0, none⟩)) :=
        ⟨hstE, htb9.of_eq (hkeepE _ htb9.lt (fun e => by have := hfvge _ e; omega)), by
          rw [World.cell?_of_block (hkeepE msb (World.block_lt_of_cell? _ _ hmsb9) (fun e => by have := hfvge _ e; omega))]; exact hmsb9⟩
      refine JS.loud (i := 15) rfl (Run.append rfl rfl hrunE) (fun _ => hSE) ?_    -- s128 := builtin Builtin.append(t117, t127) [41,41]
      refine JS.loud (i := 16) rfl (Run.nil rfl) (fun _ => hSE) ?_    -- s129 := nilCheck t113
      refine JS.take (i := 17) rfl hSE (fun w' hw' => Run.field fl53_4 rfl) ?_    -- s130 := field 53 t129 .4
      refine JS.eff (i := 18) rfl (Run.store c41 rfl rfl rfl hstE (by simp [stCells])) (fun h => absurd rfl h) ?_    -- sNone := store 41 [t130] := t128
      refine JS.to (fun _ _ h => h) ?_
      have hsetE : (stCells fv bm).set (0 + 8) (.slice (some ⟨fg, 0, none⟩) (i + 1) fcap) = stCells (.slice (some ⟨fg, 0, none⟩) (i + 1) fcap) bm := rfl
      rw [hsetE]
      refine J.region ?_    -- region 30
      refine JL.val (Run.add (c := ((i + 1 : Nat) : Int)) rfl rfl (by omega) (by omega) (by omega)) ?_    -- s131 := add t77 c:1:i64
      refine JL.val (Run.move rfl) ?_    -- s77 := move t131
      refine JL.nil fun a ha => ⟨((i + 1, .slice (some ⟨fg, 0, none⟩) (i + 1) fcap, .slice (some ⟨rg, 0, none⟩) (i + 1) rcap), updF rp i w3.heap.size, updF sl i w4.heap.size), by simp only; omega, ha.sub ⟨rfl, rfl, rfl, rfl, rfl, rfl, trivial⟩, ?_, by simp only; omega⟩
      have hrg7 : rv.ownBlock = some rg ∨ w7.heap.size ≤ rg := hrgT
      have hrg9 : rg < w9.heap.size := hlt9
      have hfgE : fv.ownBlock = some fg ∨ w9.heap.size ≤ fg := hbE.imp id (fun e => by omega)
      have hrgsb : rg ≠ sb := fun e => by
        rcases hrg7 with h | h
        · have := hrvge _ h; omega
        · omega
      have hfgsb : fg ≠ sb := fun e => by
        rcases hfgE with h | h
        · have := hfvge _ h; omega
        · omega
      have hrgfv : fv.ownBlock ≠ some rg := fun e => by
        rcases hrg7 with h | h
        · exact hB.ne rg h e
        · have := hfvge _ e; omega
      have hrgfg : rg ≠ fg := fun e => by
        rcases hfgE with h | h
        · exact hrgfv (e ▸ h)
        · omega
      have hT12 : ∀ c, c < w7.heap.size → ¬ Tset sb fv rv c → ¬ Tset sb (.slice (some ⟨fg, 0, none⟩) (i + 1) fcap) (.slice (some ⟨rg, 0, none⟩) (i + 1) rcap) c := by
        rintro c hc hn (h | h | h)
        · exact hn (.inl h)
        · simp [Value.ownBlock] at h
          subst h
          rcases hrg7 with h | h
          · exact hn (.inr (.inl h))
          · omega
        · simp [Value.ownBlock] at h
          subst h
          rcases hfgE with h | h
          · exact hn (.inr (.inr h))
          · omega
      have hkeepF : ∀ c, c < w7.heap.size → ¬ Tset sb fv rv c → (Fw.stl wE sb (stCells (.slice (some ⟨fg, 0, none⟩) (i + 1) fcap) bm)).heap[c]? = w7.heap[c]? := fun c hc hn => by
        rw [stl_other (fun e => hn (.inl e)), hkeepE c (by omega) (fun e => hn (.inr (.inr e))), hkeep9 c hc (fun e => hn (.inr (.inl e)))]
      have hnT : ∀ c, w2.heap.size ≤ c → ¬ Tset sb fv rv c := fun c hc hT => by have := hT2 c hT; omega
      refine ⟨?_, hstE.stl _, hsbw, ⟨xs ++ [.pointer (some ⟨w3.heap.size, 0, none⟩)], ?_, ?_⟩, ⟨ys ++ folCells ⟨w3.heap.size, 0, none⟩ ⟨bsOf ms (f.img % 3), 0, none⟩, ?_, ?_⟩, ?_, ?_⟩
      · refine hB7.upd.trans (hu9.trans ?_)
        have h1 : Upd w9 wA (Tset sb fv (.slice (some ⟨rg, 0, none⟩) (i + 1) rcap)) (Tset sb fv (.slice (some ⟨rg, 0, none⟩) (i + 1) rcap)) := Upd.reA (huAF.weak (fun _ h => h.elim)) (fun _ h => .inl h)
        refine (Upd.reA (h1.grown (A' := Tset sb fv (.slice (some ⟨rg, 0, none⟩) (i + 1) rcap)) hgE (fun c hc => .inr (.inr hc)) (fun c hc => .inl hc)) (A' := Tset sb (.slice (some ⟨fg, 0, none⟩) (i + 1) fcap) (.slice (some ⟨rg, 0, none⟩) (i + 1) rcap)) ?_).stl (.inl (.inl rfl)) _
        rintro c (h | h | h)
        · exact .inl (.inl h)
        · exact .inl (.inr (.inl h))
        · simp [Value.ownBlock] at h
          subst h
          exact hfgE.imp (fun e => .inr (.inr e)) id
      · refine ownsRow_keep hown9 (fun c hc => ?_)
        simp [Value.ownBlock] at hc
        subst hc
        rw [stl_other hrgsb, hkeepE rg hrg9 hrgfv]
      · intro j hj
        have hxl : xs.length = i := by simpa using hxs.1
        simp only at hj
        by_cases hji : j = i
        · subst hji
          rw [List.getElem?_append_right (by omega)]
          simp [hxl, updF]
        · rw [List.getElem?_append_left (by omega), hxsp j (by omega)]
          simp [updF, hji]
      · refine ownsRow_keep hownE (fun c hc => ?_)
        simp [Value.ownBlock] at hc
        subst hc
        rw [stl_other hfgsb]
      · intro j f' hj hf'
        have hyl : ys.length = i * 8 := hys.1
        simp only at hj
        by_cases hji : j = i
        · subst hji
          rw [hfi] at hf'
          cases hf'
          rw [List.getElem?_append_right (by omega), List.getElem?_append_right (by omega)]
          rw [show j * 8 - ys.length = 0 by omega, show j * 8 + 1 - ys.length = 1 by omega]
          simp [folCells, updF]
        · rw [List.getElem?_append_left (by omega), List.getElem?_append_left (by omega)]
          have := hysp j f' (by omega) hf'
          simpa [updF, hji] using this
      · intro c hc
        simp [Value.ownBlock] at hc ⊢
        omega
      · intro j f' hj hf'
        simp only at hj
        by_cases hji : j = i
        · subst hji
          rw [hfi] at hf'
          cases hf'
          simp only [updF, if_true]
          refine ⟨?_, by omega, hT12 _ hrb7.lt (hnT _ (by omega)), by omega, hT12 _ hsl7.lt (hnT _ (by omega)), l, hsl7.of_eq (hkeepF _ hsl7.lt (hnT _ (by omega))), hlf⟩
          rw [hhl]
          exact hrb7.of_eq (hkeepF _ hrb7.lt (hnT _ (by omega)))
        · obtain ⟨q1, q2, q3, q4, q5, l', q6, q7⟩ := hB7.recs j f' (by omega) hf'
          simp only [updF, hji, if_false]
          exact ⟨q1.of_eq (hkeepF _ q1.lt q3), q2, hT12 _ q1.lt q3, q4, hT12 _ q6.lt q5, l', q6.of_eq (hkeepF _ q6.lt q5), q7⟩
end Go.Proofs.Ybulkpiy
