/-
  zzs0791bcheck: it returns true where every image's rows are exact.
-/
import Derived.Test.YbulkpiyPlain
namespace Go.Proofs.Ybulkpiy
open Go.Fw Go.RowKit
attribute [local simp] Go.Fw.stl_size Go.Fw.sto_size

theorem below_blk {w w' : World} (hb : Below w.heap.size w w') {b : Nat} {E : TypeId} {l : List Value} (h : Blk w b E l) : Blk w' b E l := h.of_eq (hb.block b h.lt)

set_option maxRecDepth 100000
set_option maxHeartbeats 1000000 in
theorem check_calls (w : World) (N sb bm msb : Nat) (bs rp sl : Nat → Nat) (fs : List Fo) (fv rv v pv : Value) (prior : List Nat) (ms : Nat → Mk) (hms : MksOk w N ms)
    (hbs : ∀ k, k < 3 → (ms k).b = bs k) (him : Imm w (foots ms) sb bm msb bs rp sl fs fv rv) (hfs : Fs w v fs) (hpr : U8s w pv prior) (hfl : fs.length ≤ 1024) (htot : total fs ≤ 4096)
    (hex : ∀ k, k < 3 → Exact prior fs k (ms k).lists)
    (R : Ending → World → Prop) (hR : ∀ w', Below w.heap.size w w' → R (.returned (.bool true)) w') :
    Calls Yba.prog 8 #[.pointer (some ⟨sb, 0, none⟩), .slice (some ⟨msb, 0, none⟩) 3 3, rv, v, pv] w R := by
  obtain ⟨va, vc, rfl, hf⟩ := hfs
  obtain ⟨hp256, pa, pc, rfl, hp⟩ := hpr
  obtain ⟨fa, fc, hfv⟩ := him.fl
  obtain ⟨ra, rc, hrv⟩ := him.rl
  refine calls (args := [_, _, _, _, _]) (m := 5) Yba.func8 rfl rfl rfl (by decide) ?_
  refine J.seq ?_
  refine J.region ?_    -- region 0
  refine JL.val (Run.assign rfl) ?_    -- s10 := assign c:bool(false)
  refine JL.to (fun _ _ h => h) ?_
  refine J.seq ?_
  refine J.seq ?_
  refine J.region ?_    -- region 1
  refine JL.val (Run.move rfl) ?_    -- s24 := move t0
  refine JL.val (Run.nil rfl) ?_    -- s25 := nilCheck t24
  refine JL.val (Run.field fl53_4 rfl) ?_    -- s26 := field 53 t25 .4
  refine JL.val (Run.load t41 rfl (hfv ▸ him.cf)) ?_    -- s27 := load 41 [t26]
  refine JL.val (Run.len Yba.underlying41 rfl) ?_    -- s28 := builtin Builtin.len(t27) [41]
  refine JL.val (Run.move rfl) ?_    -- s29 := move t3
  refine JL.val (Run.len Yba.underlying22 rfl) ?_    -- s30 := builtin Builtin.len(t29) [22]
  refine JL.val ((Run.neq rfl rfl).to (bf (by simp))) ?_    -- s31 := neq t28 t30
  refine JL.to (fun _ _ h => h) ?_
  refine J.condF rfl rfl ?_
  refine J.skipTo (fun _ _ h => h) ?_
  refine J.seq ?_
  refine J.seq ?_
  refine J.region ?_    -- region 3
  refine JL.val (Run.assign rfl) ?_    -- s11 := assign c:0:i64
  refine JL.to (fun _ _ h => h) ?_
  refine J.block ?_    -- block 0
  refine J.loop (ι := Nat) (fun i => [(0, .pointer (some ⟨sb, 0, none⟩)), (1, .slice (some ⟨msb, 0, none⟩) 3 3), (2, rv), (3, .slice va fs.length vc), (4, .slice pa prior.length pc), (11, .int .i64 (i : Int))])
    (fun i w' => Below w.heap.size w w' ∧ i ≤ fs.length) (fun i => fs.length - i) 0 ⟨rfl, rfl, rfl, rfl, rfl, rfl, trivial⟩ ⟨Below.refl _ _, by omega⟩ ?_
  rintro i w1 ⟨hb1, hi⟩
  refine J.seq ?_
  refine J.seq ?_
  refine J.region ?_    -- region 4
  refine JL.val (Run.move rfl) ?_    -- s32 := move t11
  refine JL.val (Run.move rfl) ?_    -- s33 := move t3
  refine JL.val (Run.len Yba.underlying22 rfl) ?_    -- s34 := builtin Builtin.len(t33) [22]
  refine JL.val (Run.lss rfl rfl) ?_    -- s35 := lss t32 t34
  refine JL.to (fun _ _ h => h) ?_
  refine J.cond rfl (fun hc => ?_) (fun hc => ?_)    -- if t35
  · have hlt : i < fs.length := by have := of_decide_eq_true hc; omega
    refine J.skipTo (fun _ _ h => h) ?_
    obtain ⟨f, hfi⟩ : ∃ f, fs[i]? = some f := ⟨fs[i], List.getElem?_eq_getElem hlt⟩
    obtain ⟨fb, c1, _, hfv1, hm1, hr1⟩ := him.fol i f hfi
    obtain ⟨rb, c2, _, hrv1, hrr⟩ := him.recs i f hfi
    obtain ⟨himg, hu, b, o, rfl, hc0, hc1⟩ := hf i f hfi
    have hk3 : f.img % 3 < 3 := Nat.mod_lt _ (by omega)
    refine J.seq ?_
    refine J.block ?_    -- block 1
    refine J.seq ?_
    -- region 6 draws
    have hS : Below w.heap.size w w1.drew := hb1.drew
    refine J.draw (Below w.heap.size w) 34 [(0, true), (1, true), (2, true), (3, true), (4, true), (5, true), (6, true), (7, true), (8, true), (9, true), (10, true), (11, true), (12, true), (13, true), (14, true), (15, true), (16, true), (17, true), (18, true), (19, true), (20, true), (21, true), (22, true), (23, true), (24, true), (25, true), (26, true), (27, true), (28, true), (29, true), (30, true), (31, true), (32, true), (33, true)] (by kernel_rfl) (by kernel_rfl) ?_
    refine JS.take (i := 0) rfl hS (fun w' hw' => Run.move rfl) ?_    -- s38 := move t0
    refine JS.take (i := 1) rfl hS (fun w' hw' => Run.nil rfl) ?_    -- s39 := nilCheck t38
    refine JS.take (i := 2) rfl hS (fun w' hw' => Run.field fl53_4 rfl) ?_    -- s40 := field 53 t39 .4
    refine JS.take (i := 3) rfl hS (fun w' hw' => Run.load t41 rfl (hw'.cell1 (hfv1 ▸ him.cf))) ?_    -- s41 := load 41 [t40]
    refine JS.take (i := 4) rfl hS (fun w' hw' => Run.move rfl) ?_    -- s42 := move t11
    refine JS.take (i := 5) rfl hS (fun w' hw' => Run.index Yba.underlying41 c74 (by decide) rfl rfl hlt) ?_    -- s43 := index 41 t41 [t42]
    refine JS.take (i := 6) rfl hS (fun w' hw' => Run.field fl74_0 rfl) ?_    -- s44 := field 74 t43 .0
    refine JS.take (i := 7) rfl hS (fun w' hw' => Run.load t63 rfl (by rw [Nat.zero_add]; exact hw'.cell1 hr1)) ?_    -- s45 := load 63 [t44]
    refine JS.take (i := 8) rfl hS (fun w' hw' => Run.move rfl) ?_    -- s46 := move t2
    refine JS.take (i := 9) rfl hS (fun w' hw' => Run.move rfl) ?_    -- s47 := move t11
    refine JS.take (i := 10) rfl hS (fun w' hw' => Run.index Yba.underlying27 c63 (by decide) (by rw [← hrv1]; rfl) rfl hlt) ?_    -- s48 := index 27 t46 [t47]
    refine JS.take (i := 11) rfl hS (fun w' hw' => Run.load t63 rfl (by simpa using hw'.cell1 hrr)) ?_    -- s49 := load 63 [t48]
    refine JS.take (i := 12) rfl hS (fun w' hw' => Run.neqPtr Yba.underlying63 c70 (by decide) rfl rfl) ?_    -- s50 := neq t45 t49
    refine JS.take (i := 13) rfl hS (fun w' hw' => Run.move rfl) ?_    -- s51 := move t50
    refine JS.gtake (i := 14) rfl rfl rfl hS (fun w' hw' => Run.move rfl) ?_    -- s52 := move t0  G(13, False)
    refine JS.gtake (i := 15) rfl rfl rfl hS (fun w' hw' => Run.nil rfl) ?_    -- s53 := nilCheck t52  G(13, False)
    refine JS.gtake (i := 16) rfl rfl rfl hS (fun w' hw' => Run.field fl53_4 rfl) ?_    -- s54 := field 53 t53 .4  G(13, False)
    refine JS.gtake (i := 17) rfl rfl rfl hS (fun w' hw' => Run.load t41 rfl (hw'.cell1 (hfv1 ▸ him.cf))) ?_    -- s55 := load 41 [t54]  G(13, False)
    refine JS.gtake (i := 18) rfl rfl rfl hS (fun w' hw' => Run.move rfl) ?_    -- s56 := move t11  G(13, False)
    refine JS.gtake (i := 19) rfl rfl rfl hS (fun w' hw' => Run.index Yba.underlying41 c74 (by decide) rfl rfl hlt) ?_    -- s57 := index 41 t55 [t56]  G(13, False)
    refine JS.gtake (i := 20) rfl rfl rfl hS (fun w' hw' => Run.field fl74_1 rfl) ?_    -- s58 := field 74 t57 .1  G(13, False)
    refine JS.gtake (i := 21) rfl rfl rfl hS (fun w' hw' => Run.load t55 rfl (by rw [Nat.zero_add]; exact hw'.cell1 hm1)) ?_    -- s59 := load 55 [t58]  G(13, False)
    refine JS.gtake (i := 22) rfl rfl rfl hS (fun w' hw' => Run.move rfl) ?_    -- s60 := move t1  G(13, False)
    refine JS.gtake (i := 23) rfl rfl rfl hS (fun w' hw' => Run.move rfl) ?_    -- s61 := move t3  G(13, False)
    refine JS.gtake (i := 24) rfl rfl rfl hS (fun w' hw' => Run.move rfl) ?_    -- s62 := move t11  G(13, False)
    refine JS.gtake (i := 25) rfl rfl rfl hS (fun w' hw' => Run.index Yba.underlying22 c33 (by decide) rfl rfl hlt) ?_    -- s63 := index 22 t61 [t62]  G(13, False)
    refine JS.gtake (i := 26) rfl rfl rfl hS (fun w' hw' => Run.field fl33_0 rfl) ?_    -- s64 := field 33 t63 .0  G(13, False)
    refine JS.gtake (i := 27) rfl rfl rfl hS (fun w' hw' => Run.load t5 rfl (hw'.cell1 hc0)) ?_    -- s65 := load 5 [t64]  G(13, False)
    refine JS.gtake (i := 28) rfl rfl rfl hS (fun w' hw' => Run.conv64 Yba.underlying3 ⟨_, Yba.underlying5⟩ rfl (by omega) (by omega)) ?_    -- s66 := conv 5>3 t65  G(13, False)
    refine JS.gtake (i := 29) rfl rfl rfl hS (fun w' hw' => Run.remN (b := 3) rfl rfl (by decide)) ?_    -- s67 := rem t66 c:3:i64  G(13, False)
    refine JS.gtake (i := 30) rfl rfl rfl hS (fun w' hw' => Run.index Yba.underlying26 c55 (by decide) rfl rfl hk3) ?_    -- s68 := index 26 t60 [t67]  G(13, False)
    refine JS.gtake (i := 31) rfl rfl rfl hS (fun w' hw' => Run.load t55 rfl (by simpa using hw'.cell1 (him.ms _ hk3))) ?_    -- s69 := load 55 [t68]  G(13, False)
    refine JS.gtake (i := 32) rfl rfl rfl hS (fun w' hw' => Run.neqPtr Yba.underlying55 c59 (by decide) rfl rfl) ?_    -- s70 := neq t59 t69  G(13, False)
    refine JS.take (i := 33) rfl hS (fun w' hw' => Run.pickF rfl rfl) ?_    -- s71 := pick t51 c:bool(true) t70
    refine JS.to (fun _ _ h => h) ?_
    refine J.condF rfl rfl ?_    -- if t71
    refine J.skipTo (fun _ _ h => h) ?_
    refine J.region ?_    -- region 5
    refine JL.val (Run.move rfl) ?_    -- s36 := move t11
    refine JL.val (Run.add (c := ((i + 1 : Nat) : Int)) rfl rfl (by omega) (by omega) (by omega)) ?_    -- s37 := add t36 c:1:i64
    refine JL.val (Run.assign rfl) ?_    -- s11 := assign t37
    refine JL.nil fun a ha => ⟨i + 1, by omega, ha.sub ⟨rfl, rfl, rfl, rfl, rfl, rfl, trivial⟩, hb1.drew, by omega⟩
  clear hc hi
  refine J.exitTo (fun _ _ h => h) ?_    -- exit 0
  refine J.seq ?_
  refine J.seq ?_
  refine J.region ?_    -- region 8
  refine JL.val (Run.assign rfl) ?_    -- s12 := assign c:0:i64
  refine JL.to (fun _ _ h => h) ?_
  refine J.block ?_    -- block 2
  refine J.loop (ι := Nat) (fun k => [(1, .slice (some ⟨msb, 0, none⟩) 3 3), (3, .slice va fs.length vc), (4, .slice pa prior.length pc), (12, .int .i64 (k : Int))])
    (fun k w' => Below w.heap.size w w' ∧ k ≤ 3) (fun k => 3 - k) 0 ⟨rfl, rfl, rfl, rfl, trivial⟩ ⟨hb1, by omega⟩ ?_
  clear hb1 w1
  rintro k w1 ⟨hb1, hk⟩
  refine J.seq ?_
  refine J.seq ?_
  refine J.region ?_    -- region 9
  refine JL.val (Run.move rfl) ?_    -- s72 := move t12
  refine JL.val (Run.lss rfl rfl) ?_    -- s73 := lss t72 c:3:i64
  refine JL.to (fun _ _ h => h) ?_
  refine J.cond rfl (fun hc => ?_) (fun hc => ?_)    -- if t73
  rotate_left
  · refine J.exitTo (fun _ _ h => h) ?_    -- exit 2
    refine J.seq ?_
    refine J.region ?_    -- region 43
    refine JL.val (Run.assign rfl) ?_    -- s10 := assign c:bool(true)
    refine JL.to (fun _ _ h => h) ?_
    refine J.ret1 Yba.f8 R (fun _ _ h => h) rfl rfl ?_
    exact hR w1 hb1
  have hk3 : k < 3 := by have := of_decide_eq_true hc; omega
  refine J.skipTo (fun _ _ h => h) ?_
  refine J.seq ?_
  refine J.block ?_    -- block 3
  refine J.seq ?_
  refine J.region ?_    -- region 11
  refine JL.val (Run.move rfl) ?_    -- s76 := move t1
  refine JL.val (Run.move rfl) ?_    -- s77 := move t12
  refine JL.val (Run.index Yba.underlying26 c55 (by decide) rfl rfl hk3) ?_    -- s78 := index 26 t76 [t77]
  refine JL.val (Run.load t55 rfl (by simpa using hb1.cell1 (him.ms k hk3))) ?_    -- s79 := load 55 [t78]
  refine JL.val (Run.assign rfl) ?_    -- s13 := assign t79
  refine JL.to (fun _ _ h => h) ?_
  refine J.seq ?_
  refine J.region ?_    -- region 12
  refine JL.val (Run.assign rfl) ?_    -- s14 := assign c:0:i64
  refine JL.to (fun _ _ h => h) ?_
  refine J.mid (ι := Unit) (fun _ => [(1, .slice (some ⟨msb, 0, none⟩) 3 3), (3, .slice va fs.length vc), (4, .slice pa prior.length pc), (12, .int .i64 (k : Int)), (13, .pointer (some ⟨bs k, 0, none⟩)), (14, .int .i64 (want0 prior k : Int))])
    (fun _ w' => w' = w1) ?_ ?_
  · refine J.seq ?_
    refine J.region ?_    -- region 13
    refine JL.val (Run.move rfl) ?_    -- s80 := move t12
    refine JL.val (Run.move rfl) ?_    -- s81 := move t4
    refine JL.val (Run.len Yba.underlying23 rfl) ?_    -- s82 := builtin Builtin.len(t81) [23]
    refine JL.val (Run.lss rfl rfl) ?_    -- s83 := lss t80 t82
    refine JL.to (fun _ _ h => h) ?_
    refine J.cond rfl (fun hc => ?_) (fun hc => ?_)    -- if t83
    · have hkl : k < prior.length := by have := of_decide_eq_true hc; omega
      obtain ⟨p, hpk⟩ : ∃ p, prior[k]? = some p := ⟨prior[k], List.getElem?_eq_getElem hkl⟩
      obtain ⟨b, o, rfl, hpc⟩ := hp k p hpk
      refine J.region ?_    -- region 14
      refine JL.val (Run.move rfl) ?_    -- s84 := move t4
      refine JL.val (Run.move rfl) ?_    -- s85 := move t12
      refine JL.val (Run.index Yba.underlying23 c5 (by decide) rfl rfl hkl) ?_    -- s86 := index 23 t84 [t85]
      refine JL.val (Run.load t5 rfl (by simpa using hb1.cell1 hpc)) ?_    -- s87 := load 5 [t86]
      refine JL.val (Run.remN (b := 12) rfl rfl (by decide)) ?_    -- s88 := rem t87 c:12:u8
      refine JL.val (Run.conv64 Yba.underlying3 ⟨_, Yba.underlying5⟩ rfl (by omega) (by omega)) ?_    -- s89 := conv 5>3 t88
      refine JL.val ((Run.assign rfl).to (v' := .int .i64 (want0 prior k : Int)) (by simp [want0, hpk])) ?_    -- s14 := assign t89
      exact JL.nil fun a ha => ⟨(), ha.sub ⟨rfl, rfl, rfl, rfl, rfl, rfl, trivial⟩, rfl⟩
    · have hkl : prior.length ≤ k := by have := of_decide_eq_false hc; omega
      have hw0 : want0 prior k = 0 := by simp [want0, List.getElem?_eq_none hkl]
      exact J.skip fun a ha => ⟨(), ha.sub ⟨rfl, rfl, rfl, rfl, rfl, by rw [hw0]; rfl, trivial⟩, rfl⟩
  rintro _ w2 rfl
  have hw0le := want0_le prior k
  refine J.mid (ι := Unit) (fun _ => [(1, .slice (some ⟨msb, 0, none⟩) 3 3), (3, .slice va fs.length vc), (4, .slice pa prior.length pc), (12, .int .i64 (k : Int)), (13, .pointer (some ⟨bs k, 0, none⟩)), (14, .int .i64 (want prior fs k : Int))])
    (fun _ w' => Below w.heap.size w w') ?_ ?_
  · refine J.seq ?_
    refine J.region ?_    -- region 15
    refine JL.val (Run.move rfl) ?_    -- s90 := move t3
    refine JL.val (Run.len Yba.underlying22 rfl) ?_    -- s91 := builtin Builtin.len(t90) [22]
    refine JL.val (Run.move rfl) ?_    -- s92 := move c:0:i64
    refine JL.to (fun _ _ h => h) ?_
    refine J.block ?_    -- block 4
    refine J.loop (ι := Nat) (fun i => [(1, .slice (some ⟨msb, 0, none⟩) 3 3), (3, .slice va fs.length vc), (4, .slice pa prior.length pc), (12, .int .i64 (k : Int)), (13, .pointer (some ⟨bs k, 0, none⟩)), (14, .int .i64 (((fs.take i).foldl (wfo k) (want0 prior k) : Nat) : Int)), (90, .slice va fs.length vc), (91, .int .i64 (fs.length : Int)), (92, .int .i64 (i : Int))])
      (fun i w' => Below w.heap.size w w' ∧ i ≤ fs.length) (fun i => fs.length - i) 0 ⟨rfl, rfl, rfl, rfl, rfl, rfl, rfl, rfl, rfl, trivial⟩ ⟨hb1, by omega⟩ ?_
    clear hb1 w2
    rintro i w2 ⟨hb2, hi⟩
    refine J.seq ?_
    refine J.region ?_    -- region 16
    refine JL.val (Run.lss rfl rfl) ?_    -- s93 := lss t92 t91
    refine JL.to (fun _ _ h => h) ?_
    refine J.seq ?_
    refine J.cond rfl (fun hc => ?_) (fun hc => ?_)    -- if t93
    rotate_left
    · have hil : i = fs.length := by have := of_decide_eq_false hc; omega
      subst hil
      exact J.exit fun a ha => ⟨(), ha.sub ⟨rfl, rfl, rfl, rfl, rfl, by rw [List.take_length]; rfl, trivial⟩, hb2⟩
    have hlt : i < fs.length := by have := of_decide_eq_true hc; omega
    refine J.skipTo (fun _ _ h => h) ?_
    obtain ⟨f, hfi⟩ : ∃ f, fs[i]? = some f := ⟨fs[i], List.getElem?_eq_getElem hlt⟩
    obtain ⟨himg, hu, b, o, rfl, hc0, hc1⟩ := hf i f hfi
    have hsn := foldl_snoc (wfo k) (want0 prior k) fs i f hfi
    have hwi := wants_le (fs.take i) k hw0le
    generalize (fs.take i).foldl (wfo k) (want0 prior k) = wi at *
    refine J.seq ?_
    refine J.block ?_    -- block 5
    refine J.seq ?_
    refine J.region ?_    -- region 17
    obtain ⟨h256, ha, hcap, hhv, hcells⟩ := hu
    refine JL.val (Run.index Yba.underlying22 c33 (by decide) rfl rfl hlt) ?_    -- s94 := index 22 t90 [t92]
    refine JL.val (Run.loadA (cs := [.int .u8 (f.img : Int), f.hv]) ta33 rfl ?_) ?_    -- s95 := load 33 [t94]
    · intro j v hj
      match j with
      | 0 => cases hj; exact hb2.cell1 hc0
      | 1 => cases hj; exact hb2.cell1 hc1
      | j + 2 => simp at hj
    refine JL.val (Run.alloc (l := [.int .u8 0, .slice none 0 0]) z33 rfl) ?_    -- s16 := alloc 33
    refine JL.eff (Run.storeNew (cs := [.int .u8 (f.img : Int), f.hv]) c33 (by simp) rfl rfl (by rw [hhv]; simp [Value.oneCell']) rfl) ?_    -- sNone := store 33 [t16] := t95
    have hvar := Blk.new w2 33 [.int .u8 (f.img : Int), f.hv]
    have hb3 : Below w.heap.size w (w2.alloc (.cells [.int .u8 (f.img : Int), f.hv].toArray 33)) := hb2.alloc hb2.size _
    generalize w2.alloc (.cells [.int .u8 (f.img : Int), f.hv].toArray 33) = w3 at *
    refine JL.to (fun _ _ h => h) ?_
    refine J.seq ?_
    refine J.seq ?_
    refine J.region ?_    -- region 18
    refine JL.val (Run.field fl33_0 rfl) ?_    -- s96 := field 33 t16 .0
    refine JL.val (Run.load t5 rfl (hvar.cell rfl)) ?_    -- s97 := load 5 [t96]
    refine JL.val (Run.conv64 Yba.underlying3 ⟨_, Yba.underlying5⟩ rfl (by omega) (by omega)) ?_    -- s98 := conv 5>3 t97
    refine JL.val (Run.remN (b := 3) rfl rfl (by decide)) ?_    -- s99 := rem t98 c:3:i64
    refine JL.val (Run.move rfl) ?_    -- s100 := move t12
    refine JL.val (Run.neq rfl rfl) ?_    -- s101 := neq t99 t100
    refine JL.to (fun _ _ h => h) ?_
    refine J.cond rfl (fun hc => ?_) (fun hc => ?_)    -- if t101
    · have hne : ¬ f.img % 3 = k := by have := of_decide_eq_true hc; omega
      refine J.exitTo (fun _ _ h => h) ?_    -- exit 5
      refine J.region ?_    -- region 25
      refine JL.val (Run.add (c := ((i + 1 : Nat) : Int)) rfl rfl (by omega) (by omega) (by omega)) ?_    -- s120 := add t92 c:1:i64
      refine JL.val (Run.move rfl) ?_    -- s92 := move t120
      refine JL.nil fun a ha => ⟨i + 1, by omega, ha.sub ⟨rfl, rfl, rfl, rfl, rfl, ?_, rfl, rfl, rfl, trivial⟩, hb3, by omega⟩
      rw [hsn, wfo, if_neg hne]
      rfl
    have heq : f.img % 3 = k := by have := of_decide_eq_false hc; omega
    rw [wfo, if_pos heq] at hsn
    refine J.skipTo (fun _ _ h => h) ?_
    refine J.seq ?_
    refine J.region ?_    -- region 19
    have hfl4 : f.hs.length ≤ total fs := by
      have := total_snoc fs i f hfi
      have := total_take_le fs (i + 1)
      omega
    refine JL.val (Run.field fl33_1 rfl) ?_    -- s102 := field 33 t16 .1
    refine JL.val (Run.load (v := .slice ha f.hs.length hcap) t23 rfl (by rw [← hhv]; exact hvar.cell rfl)) ?_    -- s103 := load 23 [t102]
    refine JL.val (Run.len Yba.underlying23 rfl) ?_    -- s104 := builtin Builtin.len(t103) [23]
    refine JL.val (Run.move rfl) ?_    -- s105 := move c:0:i64
    refine JL.to (fun _ _ h => h) ?_
    refine J.block ?_    -- block 6
    refine J.loop (ι := Nat) (fun j => [(1, .slice (some ⟨msb, 0, none⟩) 3 3), (3, .slice (some ⟨b, o, none⟩) fs.length vc), (4, .slice pa prior.length pc), (12, .int .i64 (k : Int)), (13, .pointer (some ⟨bs k, 0, none⟩)), (14, .int .i64 (((f.hs.take j).foldl wstep wi : Nat) : Int)), (90, .slice (some ⟨b, o, none⟩) fs.length vc), (91, .int .i64 (fs.length : Int)), (92, .int .i64 (i : Int)),
        (103, .slice ha f.hs.length hcap), (104, .int .i64 (f.hs.length : Int)), (105, .int .i64 (j : Int))])
      (fun j w' => w' = w3 ∧ j ≤ f.hs.length) (fun j => f.hs.length - j) 0 ⟨rfl, rfl, rfl, rfl, rfl, rfl, rfl, rfl, rfl, rfl, rfl, rfl, trivial⟩ ⟨rfl, by omega⟩ ?_
    rintro j w4 ⟨rfl, hj⟩
    refine J.seq ?_
    refine J.region ?_    -- region 20
    refine JL.val (Run.lss rfl rfl) ?_    -- s106 := lss t105 t104
    refine JL.to (fun _ _ h => h) ?_
    refine J.seq ?_
    refine J.cond rfl (fun hc => ?_) (fun hc => ?_)    -- if t106
    rotate_left
    · have hjl : j = f.hs.length := by have := of_decide_eq_false hc; omega
      subst hjl
      refine J.exitTo (fun _ _ h => h) ?_    -- exit 6
      refine J.region ?_    -- region 25
      refine JL.val (Run.add (c := ((i + 1 : Nat) : Int)) rfl rfl (by omega) (by omega) (by omega)) ?_    -- s120 := add t92 c:1:i64
      refine JL.val (Run.move rfl) ?_    -- s92 := move t120
      refine JL.nil fun a ha => ⟨i + 1, by omega, ha.sub ⟨rfl, rfl, rfl, rfl, rfl, ?_, rfl, rfl, rfl, trivial⟩, hb3, by omega⟩
      rw [hsn, List.take_length]
      rfl
    have hjl : j < f.hs.length := by have := of_decide_eq_true hc; omega
    obtain ⟨x, hxj⟩ : ∃ x, f.hs[j]? = some x := ⟨f.hs[j], List.getElem?_eq_getElem hjl⟩
    obtain ⟨hb', ho', rfl, hxc⟩ := hcells j x hxj
    have hsj := foldl_snoc wstep wi f.hs j x hxj
    have hwj := wsteps_le (f.hs.take j) hwi
    generalize (f.hs.take j).foldl wstep wi = wj at *
    have hx256 := h256 x (List.mem_of_getElem? hxj)
    refine J.skipTo (fun _ _ h => h) ?_
    refine J.seq ?_
    refine J.block ?_    -- block 7
    refine J.seq ?_
    refine J.region ?_    -- region 21
    refine JL.val (Run.index Yba.underlying23 c5 (by decide) rfl rfl hjl) ?_    -- s107 := index 23 t103 [t105]
    refine JL.val (Run.load t5 rfl (by simpa using hb3.cell1 hxc)) ?_    -- s108 := load 5 [t107]
    refine JL.val (Run.assign rfl) ?_    -- s18 := assign t108
    refine JL.to (fun _ _ h => h) ?_
    refine J.seq ?_
    refine J.region ?_    -- region 22
    refine JL.val (Run.move rfl) ?_    -- s109 := move t18
    refine JL.val (Run.remN (b := 16) rfl rfl (by decide)) ?_    -- s110 := rem t109 c:16:u8
    refine JL.val (Run.conv64 Yba.underlying3 ⟨_, Yba.underlying5⟩ rfl (by omega) (by omega)) ?_    -- s111 := conv 5>3 t110
    refine JL.val (Run.add (c := ((x % 16 + 1 : Nat) : Int)) rfl rfl (by omega) (by omega) (by omega)) ?_    -- s112 := add t111 c:1:i64
    refine JL.val (Run.move rfl) ?_    -- s113 := move t14
    refine JL.val (Run.gtr rfl rfl) ?_    -- s114 := gtr t112 t113
    refine JL.to (fun _ _ h => h) ?_
    refine J.cond rfl (fun hc => ?_) (fun hc => ?_)    -- if t114
    · have hgt : wj < x % 16 + 1 := by have := of_decide_eq_true hc; omega
      refine J.region ?_    -- region 23
      refine JL.val (Run.move rfl) ?_    -- s115 := move t18
      refine JL.val (Run.remN (b := 16) rfl rfl (by decide)) ?_    -- s116 := rem t115 c:16:u8
      refine JL.val (Run.conv64 Yba.underlying3 ⟨_, Yba.underlying5⟩ rfl (by omega) (by omega)) ?_    -- s117 := conv 5>3 t116
      refine JL.val (Run.add (c := ((x % 16 + 1 : Nat) : Int)) rfl rfl (by omega) (by omega) (by omega)) ?_    -- s118 := add t117 c:1:i64
      refine JL.val (Run.assign rfl) ?_    -- s14 := assign t118
      refine JL.to (fun _ _ h => h) ?_
      refine J.region ?_    -- region 24
      refine JL.val (Run.add (c := ((j + 1 : Nat) : Int)) rfl rfl (by omega) (by omega) (by omega)) ?_    -- s119 := add t105 c:1:i64
      refine JL.val (Run.move rfl) ?_    -- s105 := move t119
      refine JL.nil fun a ha => ⟨j + 1, by omega, ha.sub ⟨rfl, rfl, rfl, rfl, rfl, ?_, rfl, rfl, rfl, rfl, rfl, rfl, trivial⟩, rfl, by omega⟩
      rw [hsj, wstep, if_pos hgt]
      rfl
    · have hgt : ¬ wj < x % 16 + 1 := by have := of_decide_eq_false hc; omega
      refine J.skipTo (fun _ _ h => h) ?_
      refine J.region ?_    -- region 24
      refine JL.val (Run.add (c := ((j + 1 : Nat) : Int)) rfl rfl (by omega) (by omega) (by omega)) ?_    -- s119 := add t105 c:1:i64
      refine JL.val (Run.move rfl) ?_    -- s105 := move t119
      refine JL.nil fun a ha => ⟨j + 1, by omega, ha.sub ⟨rfl, rfl, rfl, rfl, rfl, ?_, rfl, rfl, rfl, rfl, rfl, rfl, trivial⟩, rfl, by omega⟩
      rw [hsj, wstep, if_neg hgt]
      rfl
  clear hb1 w2
  rintro _ w2 hb2
  have hmk := hms.ok k hk3
  obtain ⟨hexl, hexr⟩ := hex k hk3
  have hwl : want prior fs k ≤ 16 := wants_le fs k hw0le
  rw [lists_length] at hexl
  have hbk := hbs k hk3
  have hlists : (ms k).lists = (ms k).rows.map (·.2) := rfl
  generalize ms k = m at *
  obtain ⟨mb, ov, rows⟩ := m
  simp only at hbk hexl hlists
  subst hbk
  obtain ⟨oa, oc, hov⟩ := ovSlice hmk.outer
  simp only at hov
  subst hov
  rw [hlists] at hexr
  refine J.seq ?_
  refine J.seq ?_
  refine J.region ?_    -- region 26
  refine JL.val (Run.move rfl) ?_    -- s121 := move t13
  refine JL.val (Run.nil rfl) ?_    -- s122 := nilCheck t121
  refine JL.val (Run.field fl59_2 rfl) ?_    -- s123 := field 59 t122 .2
  refine JL.val (Run.load t57 rfl ((below_blk hb2 hmk.blk).cell rfl)) ?_    -- s124 := load 57 [t123]
  refine JL.val (Run.len Yba.underlying57 rfl) ?_    -- s125 := builtin Builtin.len(t124) [57]
  refine JL.val (Run.move rfl) ?_    -- s126 := move t14
  refine JL.val ((Run.neq rfl rfl).to (bf (by omega))) ?_    -- s127 := neq t125 t126
  refine JL.to (fun _ _ h => h) ?_
  refine J.condF rfl rfl ?_    -- if t127
  refine J.skipTo (fun _ _ h => h) ?_
  refine J.seq ?_
  refine J.region ?_    -- region 28
  refine JL.val (Run.assign rfl) ?_    -- s19 := assign c:0:i64
  refine JL.to (fun _ _ h => h) ?_
  refine J.block ?_    -- block 8
  refine J.loop (ι := Nat) (fun h => [(1, .slice (some ⟨msb, 0, none⟩) 3 3), (3, .slice va fs.length vc), (4, .slice pa prior.length pc), (12, .int .i64 (k : Int)), (13, .pointer (some ⟨bs k, 0, none⟩)), (14, .int .i64 (want prior fs k : Int)), (19, .int .i64 (h : Int))])
    (fun h w' => Below w.heap.size w w' ∧ h ≤ want prior fs k) (fun h => want prior fs k - h) 0 ⟨rfl, rfl, rfl, rfl, rfl, rfl, rfl, trivial⟩ ⟨hb2, by omega⟩ ?_
  clear hb2 w2
  rintro h w2 ⟨hb2, hh⟩
  refine J.seq ?_
  refine J.seq ?_
  refine J.region ?_    -- region 29
  refine JL.val (Run.move rfl) ?_    -- s128 := move t19
  refine JL.val (Run.move rfl) ?_    -- s129 := move t14
  refine JL.val (Run.lss rfl rfl) ?_    -- s130 := lss t128 t129
  refine JL.to (fun _ _ h => h) ?_
  refine J.cond rfl (fun hc => ?_) (fun hc => ?_)    -- if t130
  rotate_left
  · refine J.exitTo (fun _ _ h => h) ?_    -- exit 8
    refine J.region ?_    -- region 10
    refine JL.val (Run.move rfl) ?_    -- s74 := move t12
    refine JL.val (Run.add (c := ((k + 1 : Nat) : Int)) rfl rfl (by omega) (by omega) (by omega)) ?_    -- s75 := add t74 c:1:i64
    refine JL.val (Run.assign rfl) ?_    -- s12 := assign t75
    exact JL.nil fun a ha => ⟨k + 1, by omega, ha.sub ⟨rfl, rfl, rfl, rfl, trivial⟩, hb2, by omega⟩
  have hhl : h < want prior fs k := by have := of_decide_eq_true hc; omega
  have hrow1 := hexr h hhl
  obtain ⟨⟨rv1, xs⟩, hrh⟩ : ∃ r, rows[h]? = some r := ⟨rows[h]'(by omega), List.getElem?_eq_getElem (by omega)⟩
  have hxs : xs = rowUp fs k h fs.length := by simpa [hrh] using hrow1
  have hrow := hmk.row _ (List.mem_of_getElem? hrh)
  simp only at hrow
  obtain ⟨ra1, rc1, hrv1⟩ := ovSlice hrow
  subst hrv1
  obtain ⟨og, oc', hov⟩ := ownsRow_some hmk.outer (by simp only; omega)
  simp only [Value.slice.injEq] at hov
  obtain ⟨rfl, _, rfl⟩ := hov
  have hcell : w.cell? ⟨og, h, none⟩ = some (.slice ra1 xs.length rc1) := ownsRow_cell hmk.outer (by simp [Mk.vals, hrh])
  refine J.skipTo (fun _ _ h => h) ?_
  refine J.seq ?_
  refine J.block ?_    -- block 9
  refine J.seq ?_
  refine J.region ?_    -- region 31
  refine JL.val (Run.move rfl) ?_    -- s133 := move t13
  refine JL.val (Run.nil rfl) ?_    -- s134 := nilCheck t133
  refine JL.val (Run.field fl59_2 rfl) ?_    -- s135 := field 59 t134 .2
  refine JL.val (Run.load t57 rfl ((below_blk hb2 hmk.blk).cell rfl)) ?_    -- s136 := load 57 [t135]
  refine JL.val (Run.move rfl) ?_    -- s137 := move t19
  refine JL.val (Run.index Yba.underlying57 c60 (by decide) rfl rfl (by omega)) ?_    -- s138 := index 57 t136 [t137]
  refine JL.val (Run.load t60 rfl (by simpa using hb2.cell1 hcell)) ?_    -- s139 := load 60 [t138]
  refine JL.val (Run.assign rfl) ?_    -- s20 := assign t139
  refine JL.to (fun _ _ h => h) ?_
  refine J.seq ?_
  refine J.region ?_    -- region 32
  refine JL.val (Run.assign rfl) ?_    -- s21 := assign c:0:i64
  refine JL.to (fun _ _ h => h) ?_
  refine J.seq ?_
  refine J.seq ?_
  refine J.region ?_    -- region 33
  refine JL.val (Run.move rfl) ?_    -- s140 := move t3
  refine JL.val (Run.len Yba.underlying22 rfl) ?_    -- s141 := builtin Builtin.len(t140) [22]
  refine JL.val (Run.move rfl) ?_    -- s142 := move c:0:i64
  refine JL.to (fun _ _ h => h) ?_
  refine J.block ?_    -- block 10
  refine J.loop (ι := Nat) (fun i => [(1, .slice (some ⟨msb, 0, none⟩) 3 3), (3, .slice va fs.length vc), (4, .slice pa prior.length pc), (12, .int .i64 (k : Int)), (13, .pointer (some ⟨bs k, 0, none⟩)), (14, .int .i64 (want prior fs k : Int)), (19, .int .i64 (h : Int)),
      (20, .slice ra1 xs.length rc1), (21, .int .i64 ((rowUp fs k h i).length : Int)), (140, .slice va fs.length vc), (141, .int .i64 (fs.length : Int)), (142, .int .i64 (i : Int))])
    (fun i w' => Below w.heap.size w w' ∧ i ≤ fs.length) (fun i => fs.length - i) 0 ⟨rfl, rfl, rfl, rfl, rfl, rfl, rfl, rfl, rfl, rfl, rfl, rfl, trivial⟩ ⟨hb2, by omega⟩ ?_
  clear hb2 w2
  rintro i w2 ⟨hb2, hi⟩
  refine J.seq ?_
  refine J.region ?_    -- region 34
  refine JL.val (Run.lss rfl rfl) ?_    -- s143 := lss t142 t141
  refine JL.to (fun _ _ h => h) ?_
  refine J.seq ?_
  refine J.cond rfl (fun hc => ?_) (fun hc => ?_)    -- if t143
  rotate_left
  · have hil : i = fs.length := by have := of_decide_eq_false hc; omega
    subst hil
    refine J.exitTo (fun _ _ h => h) ?_    -- exit 10
    refine J.seq ?_
    refine J.region ?_    -- region 41
    refine JL.val (Run.move rfl) ?_    -- s175 := move t21
    refine JL.val (Run.move rfl) ?_    -- s176 := move t20
    refine JL.val (Run.len Yba.underlying60 rfl) ?_    -- s177 := builtin Builtin.len(t176) [60]
    refine JL.val ((Run.neq rfl rfl).to (bf (by rw [hxs]; simp))) ?_    -- s178 := neq t175 t177
    refine JL.to (fun _ _ h => h) ?_
    refine J.condF rfl rfl ?_    -- if t178
    refine J.skipTo (fun _ _ h => h) ?_
    refine J.region ?_    -- region 30
    refine JL.val (Run.move rfl) ?_    -- s131 := move t19
    refine JL.val (Run.add (c := ((h + 1 : Nat) : Int)) rfl rfl (by omega) (by omega) (by omega)) ?_    -- s132 := add t131 c:1:i64
    refine JL.val (Run.assign rfl) ?_    -- s19 := assign t132
    exact JL.nil fun a ha => ⟨h + 1, by omega, ha.sub ⟨rfl, rfl, rfl, rfl, rfl, rfl, rfl, trivial⟩, hb2, by omega⟩
  have hlt : i < fs.length := by have := of_decide_eq_true hc; omega
  refine J.skipTo (fun _ _ h => h) ?_
  obtain ⟨f, hfi⟩ : ∃ f, fs[i]? = some f := ⟨fs[i], List.getElem?_eq_getElem hlt⟩
  obtain ⟨himg, hu, b, o, rfl, hc0, hc1⟩ := hf i f hfi
  have hu0 := hu
  obtain ⟨h256, ha, hcap, hhv, hcells⟩ := hu
  have hrs := rowUp_succ fs k h i
  have hrle := rowUp_le fs k h i
  have hfl4 : f.hs.length ≤ total fs := by
    have := total_snoc fs i f hfi
    have := total_take_le fs (i + 1)
    omega
  refine J.seq ?_
  refine J.block ?_    -- block 11
  refine J.seq ?_
  refine J.region ?_    -- region 35
  refine JL.val (Run.move rfl) ?_    -- s144 := move t142
  refine JL.val (Run.index Yba.underlying22 c33 (by decide) rfl rfl hlt) ?_    -- s145 := index 22 t140 [t142]
  refine JL.val (Run.loadA (cs := [.int .u8 (f.img : Int), f.hv]) ta33 rfl ?_) ?_    -- s146 := load 33 [t145]
  · intro j v hj
    match j with
    | 0 => cases hj; exact hb2.cell1 hc0
    | 1 => cases hj; exact hb2.cell1 hc1
    | j + 2 => simp at hj
  refine JL.val (Run.alloc (l := [.int .u8 0, .slice none 0 0]) z33 rfl) ?_    -- s23 := alloc 33
  refine JL.val (Run.assign rfl) ?_    -- s22 := assign t144
  refine JL.eff (Run.storeNew (cs := [.int .u8 (f.img : Int), f.hv]) c33 (by simp) rfl rfl (by rw [hhv]; simp [Value.oneCell']) rfl) ?_    -- sNone := store 33 [t23] := t146
  have hvar := Blk.new w2 33 [.int .u8 (f.img : Int), f.hv]
  have hb3 : Below w.heap.size w (w2.alloc (.cells [.int .u8 (f.img : Int), f.hv].toArray 33)) := hb2.alloc hb2.size _
  generalize w2.alloc (.cells [.int .u8 (f.img : Int), f.hv].toArray 33) = w3 at *
  refine JL.to (fun _ _ h => h) ?_
  -- the test: not of this image, or not on this host
  have hon : onHost fs k h i = ((f.img % 3 == k) && f.hs.any (fun x => x % 16 == h)) := by simp [onHost, hfi]
  refine J.seq ?_
  refine J.mid (ι := Unit) (fun _ => [(1, .slice (some ⟨msb, 0, none⟩) 3 3), (3, .slice (some ⟨b, o, none⟩) fs.length vc), (4, .slice pa prior.length pc), (12, .int .i64 (k : Int)), (13, .pointer (some ⟨bs k, 0, none⟩)), (14, .int .i64 (want prior fs k : Int)), (19, .int .i64 (h : Int)),
      (20, .slice ra1 xs.length rc1), (21, .int .i64 ((rowUp fs k h i).length : Int)), (22, .int .i64 (i : Int)), (140, .slice (some ⟨b, o, none⟩) fs.length vc), (141, .int .i64 (fs.length : Int)), (142, .int .i64 (i : Int)), (159, .bool (!onHost fs k h i))])
    (fun _ w' => w' = w3) ?_ ?_
  · refine J.region ?_    -- region 36
    refine JL.val (Run.field fl33_0 rfl) ?_    -- s147 := field 33 t23 .0
    refine JL.val (Run.load t5 rfl (hvar.cell rfl)) ?_    -- s148 := load 5 [t147]
    refine JL.val (Run.conv64 Yba.underlying3 ⟨_, Yba.underlying5⟩ rfl (by omega) (by omega)) ?_    -- s149 := conv 5>3 t148
    refine JL.val (Run.remN (b := 3) rfl rfl (by decide)) ?_    -- s150 := rem t149 c:3:i64
    refine JL.val (Run.move rfl) ?_    -- s151 := move t12
    by_cases hik : f.img % 3 = k
    · refine JL.val ((Run.neq rfl rfl).to (bf (by omega))) ?_    -- s152 := neq t150 t151
      refine JL.val (Run.move rfl) ?_    -- s153 := move t152
      refine JL.gval rfl rfl (Run.field fl33_1 rfl) ?_    -- s154 := field 33 t23 .1  G(6, False)
      refine JL.gval rfl rfl (Run.load t23 rfl (hvar.cell rfl)) ?_    -- s155 := load 23 [t154]  G(6, False)
      refine JL.gval rfl rfl (Run.move rfl) ?_    -- s156 := move t19  G(6, False)
      refine JL.gcall rfl rfl rfl Yba.func10 rfl rfl ?_    -- s157 := CALL f10(t155, t156) [23,3]
      refine has_calls w3 f.hv f.hs (hu0.below hb3) (by omega) h _ ⟨_, rfl, ?_⟩
      refine JL.gval rfl rfl (Run.not rfl) ?_    -- s158 := UnOp.not t157  G(6, False)
      refine JL.val ((Run.pickF rfl rfl).to (v' := .bool (!onHost fs k h i)) (by rw [hon]; simp [hik])) ?_    -- s159 := pick t153 c:bool(true) t158
      exact JL.nil fun a ha => ⟨(), ha.sub ⟨rfl, rfl, rfl, rfl, rfl, rfl, rfl, rfl, rfl, rfl, rfl, rfl, rfl, rfl, trivial⟩, rfl⟩
    · refine JL.val ((Run.neq rfl rfl).to (bt (by omega))) ?_    -- s152 := neq t150 t151
      refine JL.val (Run.move rfl) ?_    -- s153 := move t152
      refine JL.gskip rfl rfl ?_    -- s154 := field 33 t23 .1  G(6, False)
      refine JL.gskip rfl rfl ?_    -- s155 := load 23 [t154]  G(6, False)
      refine JL.gskip rfl rfl ?_    -- s156 := move t19  G(6, False)
      refine JL.gskip rfl rfl ?_    -- s157 := CALL f10(t155, t156) [23,3]
      refine JL.gskip rfl rfl ?_    -- s158 := UnOp.not t157  G(6, False)
      refine JL.val ((Run.pickT rfl rfl).to (v' := .bool (!onHost fs k h i)) (by rw [hon]; simp [hik])) ?_    -- s159 := pick t153 c:bool(true) t158
      exact JL.nil fun a ha => ⟨(), ha.sub ⟨rfl, rfl, rfl, rfl, rfl, rfl, rfl, rfl, rfl, rfl, rfl, rfl, rfl, rfl, trivial⟩, rfl⟩
  rintro _ _ rfl
  refine J.cond rfl (fun hc => ?_) (fun hc => ?_)    -- if t159
  · have hno : onHost fs k h i = false := by simpa using hc
    rw [hno] at hrs
    refine J.exitTo (fun _ _ h => h) ?_    -- exit 11
    refine J.region ?_    -- region 40
    refine JL.val (Run.add (c := ((i + 1 : Nat) : Int)) rfl rfl (by omega) (by omega) (by omega)) ?_    -- s174 := add t142 c:1:i64
    refine JL.val (Run.move rfl) ?_    -- s142 := move t174
    refine JL.nil fun a ha => ⟨i + 1, by omega, ha.sub ⟨rfl, rfl, rfl, rfl, rfl, rfl, rfl, rfl, ?_, rfl, rfl, rfl, trivial⟩, hb3, by omega⟩
    rw [hrs]
    simp
    rfl
  have hyes : onHost fs k h i = true := by simpa using hc
  have hat := rowUp_at fs k h i fs.length hlt hyes
  rw [hyes] at hrs
  rw [← hxs] at hat
  have hnl : (rowUp fs k h i).length < xs.length := by
    rcases Nat.lt_or_ge (rowUp fs k h i).length xs.length with h' | h'
    · exact h'
    · simp [List.getElem?_eq_none h'] at hat
  obtain ⟨rg, rc', hrs2⟩ := ownsRow_some hrow (by omega)
  cases hrs2
  have hyc : w.cell? ⟨rg, (rowUp fs k h i).length, none⟩ = some (.int .i64 (i : Int)) := ownsRow_cell hrow (by simp [hat])
  refine J.skipTo (fun _ _ h => h) ?_
  refine J.seq ?_
  refine J.seq ?_
  refine J.region ?_    -- region 37
  refine JL.val (Run.move rfl) ?_    -- s160 := move t21
  refine JL.val (Run.move rfl) ?_    -- s161 := move t20
  refine JL.val (Run.len Yba.underlying60 rfl) ?_    -- s162 := builtin Builtin.len(t161) [60]
  refine JL.val ((Run.geq rfl rfl).to (bf (by omega))) ?_    -- s163 := geq t160 t162
  refine JL.val (Run.move rfl) ?_    -- s164 := move t163
  refine JL.gval rfl rfl (Run.move rfl) ?_    -- s165 := move t20  G(4, False)
  refine JL.gval rfl rfl (Run.move rfl) ?_    -- s166 := move t21  G(4, False)
  refine JL.gval rfl rfl (Run.index Yba.underlying60 c3 (by decide) rfl rfl hnl) ?_    -- s167 := index 60 t165 [t166]  G(4, False)
  refine JL.gval rfl rfl (Run.load t3 rfl (by simpa using hb3.cell1 hyc)) ?_    -- s168 := load 3 [t167]  G(4, False)
  refine JL.gval rfl rfl (Run.move rfl) ?_    -- s169 := move t22  G(4, False)
  refine JL.gval rfl rfl ((Run.neq rfl rfl).to (bf (by simp))) ?_    -- s170 := neq t168 t169  G(4, False)
  refine JL.val (Run.pickF rfl rfl) ?_    -- s171 := pick t164 c:bool(true) t170
  refine JL.to (fun _ _ h => h) ?_
  refine J.condF rfl rfl ?_    -- if t171
  refine J.skipTo (fun _ _ h => h) ?_
  refine J.region ?_    -- region 39
  refine JL.val (Run.move rfl) ?_    -- s172 := move t21
  refine JL.val (Run.add (c := ((rowUp fs k h (i + 1)).length : Int)) rfl rfl (by rw [hrs]; simp) (by omega) (by rw [hrs]; simp; omega)) ?_    -- s173 := add t172 c:1:i64
  refine JL.val (Run.assign rfl) ?_    -- s21 := assign t173
  refine JL.to (fun _ _ h => h) ?_
  refine J.region ?_    -- region 40
  refine JL.val (Run.add (c := ((i + 1 : Nat) : Int)) rfl rfl (by omega) (by omega) (by omega)) ?_    -- s174 := add t142 c:1:i64
  refine JL.val (Run.move rfl) ?_    -- s142 := move t174
  exact JL.nil fun a ha => ⟨i + 1, by omega, ha.sub ⟨rfl, rfl, rfl, rfl, rfl, rfl, rfl, rfl, rfl, rfl, rfl, rfl, trivial⟩, hb3, by omega⟩
end Go.Proofs.Ybulkpiy
