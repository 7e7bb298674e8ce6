/-
  A part of a slice.
-/
import Derived.Test.Qxb6602564aMs
namespace Go.Proofs.Qxb6602564a
open Go.RowKit
set_option linter.unusedVariables false
theorem cut_has {P : Program} (t e : TypeId) {a : Option Addr} {n c B : Nat} {f : Nat → Int} {k : IntKind} {w : World} (hH : Has w B k a n f) (hc : n ≤ c) (hu : P.underlying t = some (.slice e)) (hs : (P.info? e).map (·.size) = some 1) (l h : Int) (h0 : 0 ≤ l) (h1 : l ≤ h) (h2 : h ≤ n) :
    ∃ a' c', (∀ (kl kh : IntKind) (w0 : World), (Instr.slice t (.slice a n c) (some (.int kl l)) (some (.int kh h)) none).run P w0 = .ok (.slice a' (h.toNat - l.toNat) c') w0) ∧ Has w B k a' (h.toNat - l.toNat) (fun i => f (l.toNat + i)) := by
  have he : P.elem t = e := by simp [Program.elem, hu]
  refine ⟨if c = l.toNat then a else a.map (·.add (l.toNat * 1)), c - l.toNat, fun kl kh w0 => ?_, fun hp => ?_⟩
  · rw [run_slice_lh (P := P) (w := w0) (t := t) (a := a) (len := n) (cap := c) (by rw [he]; exact hu) kl kh l h h0 h1 (by omega), he]
    cases hq : P.info? e with
    | none => simp [hq] at hs
    | some inf =>
      have hz : inf.size = 1 := by simpa [hq] using hs
      simp [sizeOf, typeInfo, hq, sliced, hz]
  · obtain ⟨b, off, ea, hb, hcell⟩ := hH (by omega)
    subst ea
    rw [if_neg (by omega)]
    refine ⟨b, off + l.toNat, by simp [Addr.add], hb, fun i hi => ?_⟩
    have := hcell (l.toNat + i) (by omega)
    rwa [← Nat.add_assoc] at this
end Go.Proofs.Qxb6602564a
