/-
  Small steps that the law takes often; what its arguments hold; what it builds.
-/
import Derived.Test.YbulkpguWrite
namespace Go.Proofs.Ybulkpgu
open Go.Fw Go.RowKit
attribute [local simp] Go.Fw.stl_size Go.Fw.sto_size

/-- 'xs = append(xs, z)': the literal, then the append. -/
theorem push1 {w0 w : World} {h : Hn} {n : Nat × Nat} {v : Value} {len : Nat} {xs : List Int} (hp : Hp w0 w h) (hs : Sl h n 21 1 v len (i32s xs)) (z : Int) (hl : len ≤ 900000) :
    ∃ b cap w' h', (∀ ty, (Builtin.append_ #[22, 22] ty #[v, .slice (some ⟨w.heap.size, 0, none⟩) 1 1]).run Yba.prog (w.alloc (.cells [.int .i32 z].toArray 21)) = .ok (.slice (some ⟨b, 0, none⟩) (len + 1) cap) w') ∧
      Hp w0 w' h' ∧ Sl h' n 21 1 (.slice (some ⟨b, 0, none⟩) (len + 1) cap) (len + 1) (i32s (xs ++ [z])) ∧ ∀ k, k ≠ n → h' k = h k := by
  have hlit := hp.alloc (.cells [.int .i32 z].toArray 21)
  have hnew : Blk (w.alloc (.cells [.int .i32 z].toArray 21)) w.heap.size 21 [.int .i32 z] := Blk.new _ _ _
  obtain ⟨b5, cap5, w5, cur5, hrun, hp5, hs5⟩ := Hp.append (P := Yba.prog) (T := 22) (ad := ⟨w.heap.size, 0, none⟩) (m := 1) (c := 1) (news := [.int .i32 z]) hlit el22 hs (by simp)
    (fun q u hq => by rw [addr_add, Nat.zero_add]; exact hnew.cell hq) (by simp [Value.oneCell']) (by omega) (by omega) (by omega)
  refine ⟨b5, cap5, w5, _, hrun, hp5, ?_, fun k hk => hup_ne hk⟩
  have e3 : i32s (xs ++ [z]) = i32s xs ++ [.int .i32 z] := by simp
  rw [e3]
  exact hs5

/-- 'q = append(q, pair{x, y})'. -/
theorem pushP {w0 w : World} {h : Hn} {n : Nat × Nat} {v : Value} {len : Nat} {xs : List (Int × Int)} (hp : Hp w0 w h) (hs : Sl h n 54 2 v len (pairs xs)) (x y : Int) (hl : len ≤ 900000) :
    ∃ b cap w' h', (∀ ty, (Builtin.append_ #[58, 58] ty #[v, .slice (some ⟨w.heap.size, 0, none⟩) 1 1]).run Yba.prog (w.alloc (.cells [.int .i32 x, .int .i32 y].toArray 54)) = .ok (.slice (some ⟨b, 0, none⟩) (len + 1) cap) w') ∧
      Hp w0 w' h' ∧ Sl h' n 54 2 (.slice (some ⟨b, 0, none⟩) (len + 1) cap) (len + 1) (pairs (xs ++ [(x, y)])) ∧ ∀ k, k ≠ n → h' k = h k := by
  have hlit := hp.alloc (.cells [.int .i32 x, .int .i32 y].toArray 54)
  have hnew : Blk (w.alloc (.cells [.int .i32 x, .int .i32 y].toArray 54)) w.heap.size 54 [.int .i32 x, .int .i32 y] := Blk.new _ _ _
  obtain ⟨b5, cap5, w5, cur5, hrun, hp5, hs5⟩ := Hp.append (P := Yba.prog) (T := 58) (ad := ⟨w.heap.size, 0, none⟩) (m := 1) (c := 1) (news := [.int .i32 x, .int .i32 y]) hlit el58 hs (by simp)
    (fun q u hq => by rw [addr_add, Nat.zero_add]; exact hnew.cell hq) (by simp [Value.oneCell']) (by omega) (by omega) (by omega)
  refine ⟨b5, cap5, w5, _, hrun, hp5, ?_, fun k hk => hup_ne hk⟩
  rw [pairs_append]
  exact hs5

/-- A slice of bools that can be read. -/
def Bls (w : World) (v : Value) (bs : List Bool) : Prop :=
  ∃ a cap, v = .slice a bs.length cap ∧ ∀ i (x : Bool), bs[i]? = some x → ∃ b o, a = some ⟨b, o, none⟩ ∧ w.cell? ⟨b, o + i, none⟩ = some (.bool x)

/-- The law's own reckoning in memory: exp, q, qs. -/
structure LP (w0 w : World) (h : Hn) (st : Ps) (ev qv sv : Value) : Prop where
  hp : Hp w0 w h
  e : Sl h (30, 0) 21 1 ev st.exp.length (i32s st.exp)
  q : Sl h (31, 0) 54 2 qv st.l.length (pairs (st.l.map (·.1)))
  s : Sl h (32, 0) 21 1 sv st.l.length (i32s (st.l.map (·.2)))

/-- One pair more: three literals, three appends. -/
theorem LP.push {w0 w : World} {h : Hn} {st : Ps} {ev qv sv : Value} (hl : LP w0 w h st ev qv sv) (take : Bool) (x y z : Int) (hz : z = if take then x else (st.next : Int)) (hb1 : st.exp.length ≤ 800000) (hb2 : st.l.length ≤ 800000) :
    ∃ b1 c1 w1 b2 c2 w2 b3 c3 w3 h3,
      (∀ ty, (Builtin.append_ #[22, 22] ty #[ev, .slice (some ⟨w.heap.size, 0, none⟩) 1 1]).run Yba.prog (w.alloc (.cells [.int .i32 z].toArray 21)) = .ok (.slice (some ⟨b1, 0, none⟩) (st.exp.length + 1) c1) w1) ∧
      (∀ ty, (Builtin.append_ #[58, 58] ty #[qv, .slice (some ⟨w1.heap.size, 0, none⟩) 1 1]).run Yba.prog (w1.alloc (.cells [.int .i32 x, .int .i32 y].toArray 54)) = .ok (.slice (some ⟨b2, 0, none⟩) (st.l.length + 1) c2) w2) ∧
      (∀ ty, (Builtin.append_ #[22, 22] ty #[sv, .slice (some ⟨w2.heap.size, 0, none⟩) 1 1]).run Yba.prog (w2.alloc (.cells [.int .i32 z].toArray 21)) = .ok (.slice (some ⟨b3, 0, none⟩) (st.l.length + 1) c3) w3) ∧
      LP w0 w3 h3 (pst take st (x, y)) (.slice (some ⟨b1, 0, none⟩) (st.exp.length + 1) c1) (.slice (some ⟨b2, 0, none⟩) (st.l.length + 1) c2) (.slice (some ⟨b3, 0, none⟩) (st.l.length + 1) c3) ∧
      ∀ k : Nat × Nat, k.1 ≠ 30 → k.1 ≠ 31 → k.1 ≠ 32 → h3 k = h k := by
  obtain ⟨b1, c1, w1, h1, r1, hp1, s1, f1⟩ := push1 hl.hp hl.e z (by omega)
  obtain ⟨b2, c2, w2, h2, r2, hp2, s2, f2⟩ := pushP hp1 (hl.q.keep (f1 _ (by simp))) x y (by omega)
  obtain ⟨b3, c3, w3, h3, r3, hp3, s3, f3⟩ := push1 hp2 ((hl.s.keep (f1 _ (by simp))).keep (f2 _ (by simp))) z (by omega)
  have hexp : (pst take st (x, y)).exp = st.exp ++ [z] := by rw [hz]; unfold pst; split <;> rfl
  have hll : (pst take st (x, y)).l = st.l ++ [((x, y), z)] := by rw [hz]; unfold pst; split <;> rfl
  refine ⟨b1, c1, w1, b2, c2, w2, b3, c3, w3, h3, r1, r2, r3, ⟨hp3, ?_, ?_, ?_⟩, fun k k1 k2 k3 => ?_⟩
  · rw [hexp, List.length_append, List.length_singleton]
    exact (s1.keep (f2 _ (by simp))).keep (f3 _ (by simp))
  · rw [hll, List.length_append, List.length_singleton, List.map_append]
    exact s2.keep (f3 _ (by simp))
  · rw [hll, List.length_append, List.length_singleton, List.map_append]
    exact s3
  · rw [f3 k (fun e => by subst e; simp at k3), f2 k (fun e => by subst e; simp at k2)]
    exact f1 k (fun e => by subst e; simp at k1)

theorem pst_nx (take : Bool) (st : Ps) (p : Int × Int) : (pst take st p).next = if take then st.next else st.next + 1 := by unfold pst; split <;> rfl
end Go.Proofs.Ybulkpgu
