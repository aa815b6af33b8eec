/-
  The followers as they come in; zzs0791bsmall: whether they are few.
-/
import Derived.Test.YbulkpiyHas
namespace Go.Proofs.Ybulkpiy
open Go.Fw Go.RowKit
attribute [local simp] Go.Fw.stl_size

/-- A follower as data: its image, its hosts (the slice's value, and its bytes). -/
structure Fo where
  img : Nat
  hv : Value
  hs : List Nat

/-- A slice of followers that can be read. -/
def Fs (w : World) (v : Value) (fs : List Fo) : Prop :=
  ∃ a cap, v = .slice a fs.length cap ∧ ∀ i f, fs[i]? = some f → f.img < 256 ∧ U8s w f.hv f.hs ∧
    ∃ b o, a = some ⟨b, o, none⟩ ∧ w.cell? ⟨b, o + i * 2, none⟩ = some (.int .u8 (f.img : Int)) ∧ w.cell? ⟨b, o + i * 2 + 1, none⟩ = some f.hv

theorem U8s.below {w w' : World} {v : Value} {xs : List Nat} (h : U8s w v xs) (hb : Below w.heap.size w w') : U8s w' v xs := by
  obtain ⟨h1, a, cap, rfl, h2⟩ := h
  refine ⟨h1, a, cap, rfl, fun i x hx => ?_⟩
  obtain ⟨b, o, ha, hc⟩ := h2 i x hx
  exact ⟨b, o, ha, hb.cell1 hc⟩

theorem Fs.below {w w' : World} {v : Value} {fs : List Fo} (h : Fs w v fs) (hb : Below w.heap.size w w') : Fs w' v fs := by
  obtain ⟨a, cap, rfl, h2⟩ := h
  refine ⟨a, cap, rfl, fun i f hf => ?_⟩
  obtain ⟨h1, h3, b, o, ha, hc, hc'⟩ := h2 i f hf
  exact ⟨h1, h3.below hb, b, o, ha, hb.cell1 hc, hb.cell1 hc'⟩

theorem U8s.slice {w : World} {v : Value} {xs : List Nat} (h : U8s w v xs) : ∃ a cap, v = .slice a xs.length cap := let ⟨_, a, cap, h, _⟩ := h; ⟨a, cap, h⟩

def total (fs : List Fo) : Nat := (fs.map fun f => f.hs.length).sum

theorem total_snoc (fs : List Fo) (i : Nat) (f : Fo) (h : fs[i]? = some f) : total (fs.take (i + 1)) = total (fs.take i) + f.hs.length := by
  have hi : i < fs.length := by
    rcases Nat.lt_or_ge i fs.length with h' | h'
    · exact h'
    · simp [List.getElem?_eq_none h'] at h
  have : fs[i] = f := by rw [List.getElem?_eq_getElem hi] at h; exact Option.some.inj h
  rw [List.take_succ_eq_append_getElem hi, this]
  simp [total]

set_option maxRecDepth 100000
theorem small_calls (w : World) (v : Value) (fs : List Fo) (hv : Fs w v fs) (hlen : ∀ f ∈ fs, f.hs.length ≤ 1000000000000000)
    (R : Ending → World → Prop) (hR : ∀ b w', Below w.heap.size w w' → (b = true → fs.length ≤ 1024 ∧ total fs ≤ 4096) → R (.returned (.bool b)) w') : Calls Yba.prog 5 #[v] w R := by
  have hv0 := hv
  obtain ⟨a, cap, rfl, hc⟩ := hv
  refine calls (args := [_]) (m := 1) Yba.func5 rfl rfl rfl (by decide) ?_
  refine J.seq ?_
  refine J.region ?_    -- region 0
  refine JL.val (Run.assign rfl) ?_    -- s2 := assign c:bool(false)
  refine JL.to (fun _ _ h => h) ?_
  refine J.seq ?_
  refine J.seq ?_
  refine J.region ?_    -- region 1
  refine JL.val (Run.move rfl) ?_    -- s6 := move t0
  refine JL.val (Run.len Yba.underlying22 rfl) ?_    -- s7 := builtin Builtin.len(t6) [22]
  refine JL.val (Run.gtr rfl rfl) ?_    -- s8 := gtr t7 c:1024:i64
  refine JL.to (fun _ _ h => h) ?_
  refine J.cond rfl (fun hc => ?_) (fun hc => ?_)    -- if t8
  · refine J.seq ?_
    refine J.region ?_    -- region 2
    refine JL.val (Run.assign rfl) ?_    -- s2 := assign c:bool(false)
    refine JL.to (fun _ _ h => h) ?_
    refine J.ret1 Yba.f5 R (fun _ _ h => h) rfl rfl ?_
    exact hR false w (Below.refl _ _) (by simp)
  have h1024 : fs.length ≤ 1024 := by have := of_decide_eq_false hc; omega
  refine J.skipTo (fun _ _ h => h) ?_
  refine J.seq ?_
  refine J.region ?_    -- region 3
  refine JL.val (Run.assign rfl) ?_    -- s3 := assign c:0:i64
  refine JL.to (fun _ _ h => h) ?_
  refine J.seq ?_
  refine J.seq ?_
  refine J.region ?_    -- region 4
  refine JL.val (Run.move rfl) ?_    -- s9 := move t0
  refine JL.val (Run.len Yba.underlying22 rfl) ?_    -- s10 := builtin Builtin.len(t9) [22]
  refine JL.val (Run.move rfl) ?_    -- s11 := move c:0:i64
  refine JL.to (fun _ _ h => h) ?_
  refine J.block ?_    -- block 0
  refine J.loop (ι := Nat) (fun i => [(3, .int .i64 (total (fs.take i) : Int)), (9, .slice a fs.length cap), (10, .int .i64 (fs.length : Int)), (11, .int .i64 (i : Int))])
    (fun i w' => Below w.heap.size w w' ∧ i ≤ fs.length ∧ total (fs.take i) ≤ 4096) (fun i => fs.length - i) 0 ⟨rfl, rfl, rfl, rfl, trivial⟩ ⟨Below.refl _ _, by omega, by simp [total]⟩ ?_
  rintro i w' ⟨hb, hi, ht⟩
  refine J.seq ?_
  refine J.region ?_    -- region 5
  refine JL.val (Run.lss rfl rfl) ?_    -- s12 := lss t11 t10
  refine JL.to (fun _ _ h => h) ?_
  refine J.seq ?_
  refine J.cond rfl (fun hc => ?_) (fun hc => ?_)    -- if t12
  · have hlt : i < fs.length := by have := of_decide_eq_true hc; omega
    refine J.skipTo (fun _ _ h => h) ?_
    obtain ⟨f, hf⟩ : ∃ f, fs[i]? = some f := ⟨fs[i], List.getElem?_eq_getElem hlt⟩
    obtain ⟨a', cap', ha', hfs⟩ := hv0.below hb
    obtain ⟨himg, hu, b, o, rfl, hc0, hc1⟩ := hfs i f hf
    have haa : a = some ⟨b, o, none⟩ := by cases ha'; rfl
    subst haa
    obtain ⟨ha, hcap, hhv⟩ := hu.slice
    have hsn := total_snoc fs i f hf
    have hfl := hlen f (List.mem_of_getElem? hf)
    refine J.seq ?_
    refine J.block ?_    -- block 1
    refine J.seq ?_
    refine J.region ?_    -- region 6
    refine JL.val (Run.index Yba.underlying22 c33 (by decide) rfl rfl hlt) ?_    -- s13 := index 22 t9 [t11]
    refine JL.val (Run.loadA (cs := [.int .u8 (f.img : Int), f.hv]) ta33 rfl ?_) ?_    -- s14 := load 33 [t13]
    · intro j v hj
      match j with
      | 0 => cases hj; exact hc0
      | 1 => cases hj; exact hc1
      | j + 2 => simp at hj
    refine JL.val (Run.alloc (l := [.int .u8 0, .slice none 0 0]) z33 rfl) ?_    -- s5 := alloc 33
    refine JL.eff (Run.storeA (cs := [.int .u8 (f.img : Int), f.hv]) c33 (by simp) rfl rfl (by rw [hhv]; simp [Value.oneCell']) (Blk.new _ _ _) (by simp)) ?_    -- sNone := store 33 [t5] := t14
    have hblk := (Blk.new w' 33 [.int .u8 0, .slice none 0 0]).stl ([.int .u8 (f.img : Int), f.hv])
    have hb' : Below w.heap.size w (stl (w'.alloc (.cells [.int .u8 0, .slice none 0 0].toArray 33)) w'.heap.size [.int .u8 (f.img : Int), f.hv]) := (hb.alloc hb.size _).stl hb.size _
    refine JL.to (fun _ _ h => h) ?_
    refine J.seq ?_
    refine J.region ?_    -- region 7
    refine JL.val (Run.move rfl) ?_    -- s15 := move t3
    refine JL.val (Run.field fl33_1 rfl) ?_    -- s16 := field 33 t5 .1
    refine JL.val (Run.load t23 rfl (hblk.cell rfl)) ?_    -- s17 := load 23 [t16]
    refine JL.val (Run.len Yba.underlying23 (by rw [← hhv]; rfl)) ?_    -- s18 := builtin Builtin.len(t17) [23]
    refine JL.val (Run.add (c := ((total (fs.take (i + 1)) : Nat) : Int)) rfl rfl (by omega) (by omega) (by omega)) ?_    -- s19 := add t15 t18
    refine JL.val (Run.assign rfl) ?_    -- s3 := assign t19
    refine JL.to (fun _ _ h => h) ?_
    refine J.seq ?_
    refine J.region ?_    -- region 8
    refine JL.val (Run.move rfl) ?_    -- s20 := move t3
    refine JL.val (Run.gtr rfl rfl) ?_    -- s21 := gtr t20 c:4096:i64
    refine JL.to (fun _ _ h => h) ?_
    refine J.cond rfl (fun hc => ?_) (fun hc => ?_)    -- if t21
    · refine J.seq ?_
      refine J.region ?_    -- region 9
      refine JL.val (Run.assign rfl) ?_    -- s2 := assign c:bool(false)
      refine JL.to (fun _ _ h => h) ?_
      refine J.ret1 Yba.f5 R (fun _ _ h => h) rfl rfl ?_
      exact hR false _ hb' (by simp)
    have h4096 : total (fs.take (i + 1)) ≤ 4096 := by have := of_decide_eq_false hc; omega
    refine J.skipTo (fun _ _ h => h) ?_
    refine J.region ?_    -- region 10
    refine JL.val (Run.add (c := ((i + 1 : Nat) : Int)) rfl rfl (by omega) (by omega) (by omega)) ?_    -- s22 := add t11 c:1:i64
    refine JL.val (Run.move rfl) ?_    -- s11 := move t22
    refine JL.nil fun a ha => ⟨i + 1, by omega, ha.sub ⟨rfl, rfl, rfl, rfl, trivial⟩, hb', by omega, h4096⟩
  · have hil : i = fs.length := by have := of_decide_eq_false hc; omega
    subst hil
    refine J.exitTo (fun _ _ h => h) ?_    -- exit 0
    refine J.seq ?_
    refine J.region ?_    -- region 11
    refine JL.val (Run.assign rfl) ?_    -- s2 := assign c:bool(true)
    refine JL.to (fun _ _ h => h) ?_
    refine J.ret1 Yba.f5 R (fun _ _ h => h) rfl rfl ?_
    rw [List.take_length] at ht
    exact hR true w' hb (fun _ => ⟨h1024, ht⟩)
end Go.Proofs.Ybulkpiy
