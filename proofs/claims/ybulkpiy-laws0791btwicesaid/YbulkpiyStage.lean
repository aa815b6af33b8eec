/-
  The staging in memory: three images' marks (which turn) and all else that the build laid (which stays).
-/
import Derived.Test.YbulkpiyIndex
import Derived.Test.YbulkpiyFwMap
namespace Go.Proofs.Ybulkpiy
open Go.Fw Go.RowKit
attribute [local simp] Go.Fw.stl_size Go.Fw.sto_size

structure MksOk (w : World) (N : Nat) (ms : Nat → Mk) : Prop where
  ok : ∀ k, k < 3 → MkOk w N (ms k)
  sep : ∀ j k, j < 3 → k < 3 → j ≠ k → ∀ b, (ms j).foot b → ¬ (ms k).foot b

/-- The blocks of all three. -/
def foots (ms : Nat → Mk) (b : Nat) : Prop := ∃ k, k < 3 ∧ (ms k).foot b

def updM (ms : Nat → Mk) (k : Nat) (m : Mk) : Nat → Mk := fun j => if j = k then m else ms j

theorem MksOk.keep {w w' : World} {N : Nat} {ms : Nat → Mk} (h : MksOk w N ms) (hk : ∀ b, foots ms b → w'.heap[b]? = w.heap[b]?) : MksOk w' N ms :=
  ⟨fun k hk3 => (h.ok k hk3).keep fun b hb => hk b ⟨k, hk3, hb⟩, h.sep⟩

theorem MksOk.lt {w : World} {N : Nat} {ms : Nat → Mk} (h : MksOk w N ms) {b : Nat} (hb : foots ms b) : N ≤ b ∧ b < w.heap.size := by
  obtain ⟨k, hk, hb⟩ := hb
  exact (h.ok k hk).lt hb

theorem MksOk.upd {w w' : World} {N k : Nat} {ms : Nat → Mk} {m' : Mk} (h : MksOk w N ms) (hk : k < 3) (hm : MkOk w' N m') (hu : Upd w w' (ms k).foot m'.foot) :
    MksOk w' N (updM ms k m') ∧ Upd w w' (foots ms) (foots (updM ms k m')) := by
  have hold : ∀ j, j < 3 → j ≠ k → ∀ b, (ms j).foot b → ¬ m'.foot b := fun j hj hjk b hb hb' => by
    rcases hu.sub b hb' with h1 | h1
    · exact h.sep j k hj hk hjk b hb h1
    · have := ((h.ok j hj).lt hb).2; omega
  refine ⟨⟨fun j hj => ?_, fun i j hi hj hij b hb hb' => ?_⟩, hu.os, hu.tape, hu.output, hu.size, fun b hb hn => hu.keep b hb (fun h0 => hn ⟨k, hk, h0⟩), ?_⟩
  · unfold updM
    split
    · exact hm
    · rename_i hjk
      exact (h.ok j hj).keep fun b hb => hu.keep b ((h.ok j hj).lt hb).2 (h.sep j k hj hk hjk b hb)
  · unfold updM at hb hb'
    split at hb
    · split at hb'
      · omega
      · rename_i hjk; exact hold j hj hjk b hb' hb
    · split at hb'
      · rename_i hik _; exact hold i hi hik b hb hb'
      · exact h.sep i j hi hj hij b hb hb'
  · rintro b ⟨j, hj, hb⟩
    unfold updM at hb
    split at hb
    · exact (hu.sub b hb).imp (fun h1 => ⟨k, hk, h1⟩) id
    · exact .inl ⟨j, hj, hb⟩

/-- The hosts of a follower's slots. -/
def Fo.hosts (f : Fo) : List Nat := f.hs.map (· % 16)

theorem Fo.hosts_lt (f : Fo) : ∀ h ∈ f.hosts, h < 16 := by
  intro h hh
  simp [Fo.hosts] at hh
  obtain ⟨x, _, rfl⟩ := hh
  omega

def keyOf (c : UInt8) : Value := .agg #[.string ⟨#[c]⟩, .int .i64 1]
def entryOf (bs : Nat → Nat) (k : Nat) : MapEntry := ⟨keyOf (97 + k.toUInt8), .pointer (some ⟨bs k, 0, none⟩), k⟩

/-- What the build laid and what stays. 'Z': the marks' blocks, of which none of this is. -/
structure Imm (w : World) (Z : Nat → Prop) (sb bm msb : Nat) (bs rp sl : Nat → Nat) (fs : List Fo) (fv rv : Value) : Prop where
  zs : ¬ Z sb
  zm : ¬ Z bm
  zms : ¬ Z msb
  cf : w.cell? ⟨sb, 8, none⟩ = some fv
  cm : w.cell? ⟨sb, 13, none⟩ = some (.map (some bm))
  map : w.heap[bm]? = some (.map #[entryOf bs 0, entryOf bs 1, entryOf bs 2] 3)
  ms : ∀ k, k < 3 → w.cell? ⟨msb, k, none⟩ = some (.pointer (some ⟨bs k, 0, none⟩))
  fl : ∃ a c, fv = .slice a fs.length c
  rl : ∃ a c, rv = .slice a fs.length c
  fol : ∀ i f, fs[i]? = some f → ∃ fb c, ¬ Z fb ∧ fv = .slice (some ⟨fb, 0, none⟩) fs.length c ∧ w.cell? ⟨fb, i * 8 + 1, none⟩ = some (.pointer (some ⟨bs (f.img % 3), 0, none⟩)) ∧ w.cell? ⟨fb, i * 8, none⟩ = some (.pointer (some ⟨rp i, 0, none⟩))
  recs : ∀ i f, fs[i]? = some f → ∃ rb c, ¬ Z rb ∧ rv = .slice (some ⟨rb, 0, none⟩) fs.length c ∧ w.cell? ⟨rb, i, none⟩ = some (.pointer (some ⟨rp i, 0, none⟩))
  slots : ∀ i f, fs[i]? = some f → ¬ Z (rp i) ∧ ¬ Z (sl i) ∧ sl i < w.heap.size ∧ w.cell? ⟨rp i, 12, none⟩ = some (.slice (some ⟨sl i, 0, none⟩) f.hosts.length f.hosts.length) ∧
    ∀ (j h : Nat), f.hosts[j]? = some h → w.cell? ⟨sl i, j * 2, none⟩ = some (.int .i64 (h : Int)) ∧ w.cell? ⟨sl i, j * 2 + 1, none⟩ = some (.int .i64 0)

theorem Imm.upd {w w' : World} {Z Z' : Nat → Prop} {sb bm msb : Nat} {bs rp sl : Nat → Nat} {fs : List Fo} {fv rv : Value} (h : Imm w Z sb bm msb bs rp sl fs fv rv) (hu : Upd w w' Z Z') : Imm w' Z' sb bm msb bs rp sl fs fv rv := by
  have hz : ∀ (a : Addr) v, w.cell? a = some v → ¬ Z a.block → ¬ Z' a.block := fun a v hc hn hz => by
    rcases hu.sub _ hz with h1 | h1
    · exact hn h1
    · have := World.block_lt_of_cell? w a hc; omega
  have hbm : bm < w.heap.size := (Array.getElem?_eq_some_iff.1 h.map).1
  refine ⟨hz _ _ h.cf h.zs, ?_, hz _ _ (h.ms 0 (by omega)) h.zms, hu.cell h.cf h.zs, hu.cell h.cm h.zs, ?_, fun k hk => hu.cell (h.ms k hk) h.zms, h.fl, h.rl, fun i f hf => ?_, fun i f hf => ?_, fun i f hf => ?_⟩
  · intro hZ
    rcases hu.sub _ hZ with h1 | h1
    · exact h.zm h1
    · omega
  · rw [hu.keep bm hbm h.zm]; exact h.map
  · obtain ⟨fb, c, h1, h2, h3, h4⟩ := h.fol i f hf
    exact ⟨fb, c, hz _ _ h3 h1, h2, hu.cell h3 h1, hu.cell h4 h1⟩
  · obtain ⟨rb, c, h1, h2, h3⟩ := h.recs i f hf
    exact ⟨rb, c, hz _ _ h3 h1, h2, hu.cell h3 h1⟩
  · obtain ⟨h1, h2, h5, h3, h4⟩ := h.slots i f hf
    refine ⟨hz _ _ h3 h1, ?_, Nat.lt_of_lt_of_le h5 hu.size, hu.cell h3 h1, fun j x hj => ⟨hu.cell (h4 j x hj).1 h2, hu.cell (h4 j x hj).2 h2⟩⟩
    intro hZ
    rcases hu.sub _ hZ with h6 | h6
    · exact h2 h6
    · omega
end Go.Proofs.Ybulkpiy
