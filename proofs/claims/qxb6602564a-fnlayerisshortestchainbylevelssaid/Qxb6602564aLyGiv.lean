/-
  layer: what it promises; the givers.
-/
import Derived.Test.Qxb6602564aLyHit
import Derived.Test.Qxb6602564aLyCut
namespace Go.Proofs.Qxb6602564a
open Go.RowKit
set_option linter.unusedVariables false

def LayP (m : M) (mb sb fb vb db ib hb base B0 : Nat) (N : Int) (a : Int) (w : World) (e : Ending) (w' : World) : Prop :=
  ∃ q giv d i o nq xq ng xg, e = .returned (.int .i64 a) ∧ MS w' m mb sb fb vb db ib hb q giv (N + 1) d i o ∧ w'.ownsRow base 3 1 q nq xq ∧ w'.ownsRow base 3 1 giv ng xg ∧ Apart giv q ∧ (∀ u, u < m.n1 → i u ≤ N + 1) ∧ (∀ n, n < m.n9 → o n ≤ N + 1) ∧ Below B0 w w' ∧ base ≤ w'.heap.size
theorem LS.done {m : M} {c : Cx} {s : Stt} {w : World} (h : LS m c s w) {N a : Int} (hN : c.N = N + 1) : LayP m c.mb c.sb c.fb c.vb c.db c.ib c.hb c.base c.B0 N a c.w0 (.returned (.int .i64 a)) w := by
  obtain ⟨q, d, i, o, S, hq, R, F, hg, hap, hb, hB, hs⟩ := h
  have il := R.il
  have ol := R.ol
  rw [hN] at S il ol
  exact ⟨q, c.giv, d, i, o, _, _, _, _, rfl, S, hq, hg, hap, il, ol, hB, hs⟩
theorem Apart.symm {v q : Value} (h : Apart v q) : Apart q v := by
  rcases h with h | h
  · cases hq : q.ownBlock with
    | none => exact .inl hq
    | some k => exact .inr (by rw [hq, h]; simp)
  · exact .inr (Ne.symm h)
/-- The masters' row with other givers. -/
theorem MS.setG {w : World} {m : M} {mb sb fb vb db ib hb : Nat} {q giv : Value} {N : Int} {d i o : Nat → Int} (S : MS w m mb sb fb vb db ib hb q giv N d i o) (giv' : Value) : MS (w.setCell ⟨mb, 19, none⟩ giv') m mb sb fb vb db ib hb q giv' N d i o := by
  obtain ⟨rm, rs, ⟨gf, rf⟩, ⟨gv, rv⟩, rd, ri, ⟨gh, rh, hh⟩, fd, fi, di⟩ := S
  refine ⟨(rm.set 19 giv').ext (fun k hk => ?_), rs.other mb _ (Ne.symm (rm.ne rs (by decide))) _, ⟨gf, rf.other mb _ (Ne.symm (rm.ne rf (by decide))) _⟩, ⟨gv, rv.other mb _ (Ne.symm (rm.ne rv (by decide))) _⟩, rd.other mb _ (Ne.symm (rm.ne rd (by decide))) _, ri.other mb _ (Ne.symm (rm.ne ri (by decide))) _, ⟨gh, rh.other mb _ (Ne.symm (rm.ne rh (by decide))) _, hh⟩, fd, fi, di⟩
  by_cases e : k = 19
  · subst e; rw [upd_at]; rfl
  · rw [upd_ne _ _ e]
    obtain rfl | rfl | rfl | rfl | rfl | rfl | rfl | rfl | rfl | rfl | rfl | rfl | rfl | rfl | rfl | rfl | rfl | rfl | rfl | rfl | rfl : k = 0 ∨ k = 1 ∨ k = 2 ∨ k = 3 ∨ k = 4 ∨ k = 5 ∨ k = 6 ∨ k = 7 ∨ k = 8 ∨ k = 9 ∨ k = 10 ∨ k = 11 ∨ k = 12 ∨ k = 13 ∨ k = 14 ∨ k = 15 ∨ k = 16 ∨ k = 17 ∨ k = 18 ∨ k = 20 ∨ k = 21 := by omega
    all_goals rfl
/-- What stands fast while the givers are gathered. -/
structure Cg where
  (mb sb fb vb db ib hb base B0 : Nat)
  q : Value
  nq : Nat
  xq : List Value
  N : Int
  (d i o : Nat → Int)
  (bf bt : Nat)
  (flo fhi tlo thi : Int)
  w0 : World
structure Cg.ok (c : Cg) : Prop where
  l0 : c.B0 ≤ c.mb
  lb : c.B0 ≤ c.base
  hi : c.fb < c.base ∧ c.db < c.base ∧ c.ib < c.base ∧ c.vb < c.base ∧ c.mb < c.base ∧ c.sb < c.base ∧ c.hb < c.base
  bt : c.base ≤ c.bt
  bf : c.base ≤ c.bf
/-- The givers l are gathered. -/
def GS (m : M) (c : Cg) (l : List Nat) (w : World) : Prop :=
  ∃ giv, MS w m c.mb c.sb c.fb c.vb c.db c.ib c.hb c.q giv c.N c.d c.i c.o ∧ w.ownsRow c.base 3 1 giv l.length (qv l) ∧ w.ownsRow c.base 3 1 c.q c.nq c.xq ∧ Apart giv c.q ∧ Row w c.bf 59 2 (pairv c.flo c.fhi) ∧ Row w c.bt 59 2 (pairv c.tlo c.thi) ∧ Below c.B0 c.w0 w ∧ c.base ≤ w.heap.size
theorem GS.only {m : M} {c : Cg} {l : List Nat} {w w' : World} (h : GS m c l w) (ok : c.ok) (O : Only [] w w') : GS m c l w' := by
  obtain ⟨giv, S, hg, hq, hap, hf, ht, hB, hs⟩ := h
  have := ok.lb
  have := O.size
  exact ⟨giv, S.only O, ownsRow_keep hg O (by simp), ownsRow_keep hq O (by simp), hap, hf.keep O (by simp), ht.keep O (by simp), hB.trans (O.below (by omega) (by simp)), by omega⟩
/-- One more giver. -/
theorem GS.push {m : M} {c : Cg} {l : List Nat} {w w1 w2 : World} {giv : Value} {g cap u : Nat} (ok : c.ok) (S : MS w m c.mb c.sb c.fb c.vb c.db c.ib c.hb c.q giv c.N c.d c.i c.o) (hg : w.ownsRow c.base 3 1 giv l.length (qv l)) (hq : w.ownsRow c.base 3 1 c.q c.nq c.xq) (hap : Apart giv c.q) (hf : Row w c.bf 59 2 (pairv c.flo c.fhi)) (ht : Row w c.bt 59 2 (pairv c.tlo c.thi)) (hB : Below c.B0 c.w0 w) (hs : c.base ≤ w.heap.size)
    (O1 : Only [] w w1) (hG : w1.grownBy w2 giv.ownBlock) (hat : giv.ownBlock = some g ∨ w1.heap.size ≤ g) (hW : w2.ownsRow c.base 3 1 (.slice (some ⟨g, 0, none⟩) (l.length + 1) cap) (l.length + 1) (qv l ++ [.int .i64 (u : Int)])) : GS m c (l ++ [u]) (w2.setCell ⟨c.mb, 19, none⟩ (.slice (some ⟨g, 0, none⟩) (l.length + 1) cap)) := by
  obtain ⟨l7, lb, z, lt, lf⟩ := ok
  have K : Kept [] giv (.slice (some ⟨g, 0, none⟩) (l.length + 1) cap) w w2 := (Kept.of_only O1 giv).trans (Kept.of_grown hG hat)
  have hk := K.owns hq (by simp) hap.symm
  have s1 := O1.size
  have s2 := hG.size
  have G2 : Below c.base w w2 := by
    have b1 : Below c.base w w1 := O1.below (by omega) (by simp)
    refine b1.trans ⟨hG.os, hG.tape, hG.output, hG.size, fun k hk => ?_⟩
    exact hG.block k (by omega) (fun h => by have := (hg.lt k h.symm).1; omega)
  have O : Only [c.mb] w2 (w2.setCell ⟨c.mb, 19, none⟩ (.slice (some ⟨g, 0, none⟩) (l.length + 1) cap)) := (Only.refl _ _).set c.mb 19 _ (.inl (by simp))
  have hm : ∀ k, k ∈ [c.mb] → k < c.base := by simp; exact z.2.2.2.2.1
  have s3 := O.size
  have z5 := z.2.2.2.2.1
  refine ⟨.slice (some ⟨g, 0, none⟩) (l.length + 1) cap, (S.below G2 z).setG _, ?_, ownsRow_keep hk.1 O hm, hk.2.symm, (K.row hf (by simp) (ownsRow_not hg hf (by decide))).keep O (by simp; omega), (K.row ht (by simp) (ownsRow_not hg ht (by decide))).keep O (by simp; omega), (hB.trans (G2.mono lb)).trans (O.below (by omega) (by simp; omega)), by omega⟩
  have h := ownsRow_keep hW O hm
  simpa [qv] using h
end Go.Proofs.Qxb6602564a
