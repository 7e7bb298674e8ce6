/-
  THE PROOF OF 'Rows.FnPopBackSpecSaid': the arguments opened, the walk, the statement.
-/
import Derived.Test.Qxb6602566aPbLaw6
import Derived.Test.Qxb6602566aPbOpen
import Derived.Test.Qxb6602566aPbClosed
import Derived.Test.Qxb6602566aRows
import Derived.WalkKit
import Derived.ProofKit
import Derived.OpenShut
import Derived.ShutString
import Derived.ChangeOld
import Derived.Below
namespace Go.Proofs.Qxb6602566a.fnPopBackSpec
open Go.ChangeShapes Go.WideShapes Go.ChangeAt Go.RowKit
set_option linter.unusedVariables false

theorem own : ownKnob Try.prog.godebug = none := by kernel_rfl
theorem laidOut : laidOutB Try.prog = true := by kernel_rfl
theorem cells45 : Try.prog.cellsOf 45 = 1 := by kernel_rfl
theorem cells60 : Try.prog.cellsOf 60 = 5 := by kernel_rfl
theorem cells52 : Try.prog.cellsOf 52 = 1 := by kernel_rfl
theorem i64_le {z : Int} (h : (Lit.int .i64 z).wf = true) : z ≤ 9223372036854775807 := by
  simp only [Lit.wf, Bool.and_eq_true, decide_eq_true_eq] at h
  exact h.2
/-- The blocks as they come in are plain data that lie in memory. -/
theorem laid_in {H : Type} {enc : TypeId × Value → H} {w : World} (a : Option Addr) (n c : Nat) (r : Reads enc Try.prog w 0 (fun _ => true) true 44 [.slice a n c]) :
    ∃ p : Bs, LaidB w w.heap.size p ∧ p.a = a ∧ p.n = n ∧ p.c = c := by
  obtain ⟨b, m, d, E, l, R⟩ := open_rows Try.underlying44 Try.underlying52 cells52 r
  obtain ⟨x, hx⟩ := Go.Deep.choose_lt (n := n) (p := fun i (S : Nat → Nat → Int) => Elems w w.heap.size (b i) (m i) 5 (fun j => .int .u32 (S (j / 5) (j % 5))) ∧ (m i : Int) ≤ 9223372036854775807) (fun i hi => by
    obtain ⟨S, h1, h2, _⟩ := open_arrays (s := 5) Try.underlying52 Try.underlying60 Try.underlying45 cells60 (by omega) cells45 (R i hi)
    exact ⟨S, h1, h2⟩)
  exact ⟨⟨a, n, c, b, m, d, x⟩, ⟨E, fun i hi => (hx i hi).1, l, fun i hi => (hx i hi).2⟩, rfl, rfl, rfl⟩

/-! ### THE ROW's STEP -/
set_option maxRecDepth 100000 in
theorem lifted (os : Os) (started : os.Started) (H : Type) (enc : TypeId × Value → H) :
    ReturnsInHanded {} Try.checked os 6 .any (Rows.fnPopBackSpecSpec.pre6 enc Try.prog Try.f6 Rows.fnPopBackSpecRow.domain false) (Rows.fnPopBackSpecSpec.post enc Try.prog Try.f6 false true false false) := by
  refine returnsInHanded_of_change (C := Try.checked) own started (by kernel_rfl) Try.func6
    (ChangeSpec.witness6 (enc := enc) (C := Try.checked) false ⟨#[], #[.slice none 0 0, .int .i64 0, .int .i64 0, .int .i64 0], []⟩ 8 (by kernel_rfl) (by kernel_rfl) (by kernel_rfl) (by kernel_rfl)) ?_
  intro W base args ds gs before hval0 hW hcnd _
  have hval : ∀ (j : Nat) t v, Try.f6.params[j]? = some t → args[j]? = some v → Value.okWide Try.prog W .any base t v := hval0
  have hW' := hW
  obtain ⟨p, q, hA0, hV, rfl, hfz, hnd⟩ := hW
  have hA : DataW.TrodAll enc Try.prog W 0 (fun _ => true) true Try.f6.params.toList args.toList ds p := hA0
  rw [Try.params6] at hA hval
  obtain ⟨v0, vs0, d0, ds0, p0, q0, hargs, rfl, rfl, h0, r0⟩ := trodAll_cons hA
  obtain ⟨v1, vs1, d1, ds1, p1, q1, rfl, rfl, rfl, h1, r1⟩ := trodAll_cons r0
  obtain ⟨v2, vs2, d2, ds2, p2, q2, rfl, rfl, rfl, h2, r2⟩ := trodAll_cons r1
  obtain ⟨v3, vs3, d3, ds3, p3, q3, rfl, rfl, rfl, h3, r3⟩ := trodAll_cons r2
  obtain ⟨rfl, rfl, rfl⟩ := trodAll_nil r3
  obtain rfl : args = #[v0, v1, v2, v3] := by cases args; simp_all
  obtain ⟨rfl, rfl⟩ := trodVars_none hV
  obtain ⟨a0, n0, c0, rfl⟩ := okWide_slice Try.underlying44 (hval 0 44 v0 rfl rfl)
  have k0 := h0
  have lt0 : ∀ x ∈ p0, x.block < W.heap.size := by obtain ⟨m, hm⟩ := k0; exact DataW.trod_lt m _ _ _ hm
  have R0 : Reads enc Try.prog W 0 (fun _ => true) true 44 [.slice a0 n0 c0] := by obtain ⟨fu, hf⟩ := h0; exact ⟨fu, _, hf⟩
  obtain ⟨z1, rfl⟩ := okWide_int Try.underlying3 (hval 1 3 v1 rfl rfl)
  have k1 := h1
  have lt1 : ∀ x ∈ p1, x.block < W.heap.size := by obtain ⟨m, hm⟩ := k1; exact DataW.trod_lt m _ _ _ hm
  have R1 : Reads enc Try.prog W 0 (fun _ => true) true 3 [.int .i64 z1] := by obtain ⟨fu, hf⟩ := h1; exact ⟨fu, _, hf⟩
  obtain ⟨z2, rfl⟩ := okWide_int Try.underlying3 (hval 2 3 v2 rfl rfl)
  have k2 := h2
  have lt2 : ∀ x ∈ p2, x.block < W.heap.size := by obtain ⟨m, hm⟩ := k2; exact DataW.trod_lt m _ _ _ hm
  have R2 : Reads enc Try.prog W 0 (fun _ => true) true 3 [.int .i64 z2] := by obtain ⟨fu, hf⟩ := h2; exact ⟨fu, _, hf⟩
  obtain ⟨z3, rfl⟩ := okWide_int Try.underlying3 (hval 3 3 v3 rfl rfl)
  have k3 := h3
  have lt3 : ∀ x ∈ p3, x.block < W.heap.size := by obtain ⟨m, hm⟩ := k3; exact DataW.trod_lt m _ _ _ hm
  have R3 : Reads enc Try.prog W 0 (fun _ => true) true 3 [.int .i64 z3] := by obtain ⟨fu, hf⟩ := h3; exact ⟨fu, _, hf⟩
  clear hA0 hval0
  obtain ⟨_, e3, hz3⟩ := reads_int Try.underlying3 R3
  simp at e3
  subst e3
  obtain ⟨P, hL, rfl, rfl, rfl⟩ := laid_in a0 n0 c0 R0
  refine (law6 P z1 z2 _ W.heap.size W hL (Nat.le_refl _) (i64_le hz3)).mono fun e W' ⟨he, O⟩ => ?_
  have bel : Below W.heap.size W W' := O.below (Nat.le_refl _) (by simp)
  subst he
  exact ⟨_, rfl, _, _, _, [], _, [], hW', trodAll_mk1 (shut_bool Try.underlying4 _), (trodAll_cons_mk (Below.trod laidOut (by kernel_rfl) (of_decide_eq_true (by kernel_rfl)) k0 bel lt0) (trodAll_cons_mk (Below.trod laidOut (by kernel_rfl) (of_decide_eq_true (by kernel_rfl)) k1 bel lt1) (trodAll_cons_mk (Below.trod laidOut (by kernel_rfl) (of_decide_eq_true (by kernel_rfl)) k2 bel lt2) (trodAll_cons_mk (Below.trod laidOut (by kernel_rfl) (of_decide_eq_true (by kernel_rfl)) k3 bel lt3) trodAll_mk0)))), rfl, bel.frame _, fun h => by cases h⟩

theorem over : Rows.fnPopBackSpecRow.holds Try.pinned (OpenSpec.ofChange Rows.fnPopBackSpecSpec) :=
  OpenClaim.holds_of_wide 6 Try.f6 rfl rfl rfl rfl rfl rfl rfl ⟨rfl, rfl, rfl, rfl, rfl⟩ rfl rfl rfl rfl rfl (by kernel_rfl) Try.func6 Pb_closed
    (of_decide_eq_true (by kernel_rfl)) (by unfold Func.isWrapper; first | (rw [if_pos (by decide +kernel)]; kernel_rfl) | (rw [if_neg (by decide +kernel)]; exact ⟨rfl, rfl⟩))
    (fun os started H enc _ => lifted os started H enc)

end Go.Proofs.Qxb6602566a.fnPopBackSpec
namespace Go.Proofs.Qxb6602566a
/-- ████ THE STATEMENT ████ -/
theorem fnPopBackSpec_proved : Rows.FnPopBackSpecSaid := fnPopBackSpec.over
end Go.Proofs.Qxb6602566a
