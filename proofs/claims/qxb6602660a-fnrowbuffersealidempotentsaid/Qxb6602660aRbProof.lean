/-
  THE PROOF OF 'Rows.FnRowBufferSealIdempotentSaid': the arguments opened, the walk, the statement.
-/
import Derived.Test.Qxb6602660aRbLaw6
import Derived.Test.Qxb6602660aRbOpen
import Derived.Test.Qxb6602660aRbClosed
import Derived.Test.Qxb6602660aRows
import Derived.WalkKit
import Derived.ProofKit
import Derived.OpenShut
import Derived.ShutString
import Derived.ChangeOld
import Derived.Below
namespace Go.Proofs.Qxb6602660a.fnRowBufferSealIdempotent
open Go.ChangeShapes Go.WideShapes Go.ChangeAt Go.RowKit
set_option linter.unusedVariables false

theorem own : ownKnob Try.prog.godebug = none := by kernel_rfl
theorem laidOut : laidOutB Try.prog = true := by kernel_rfl
theorem cells5 : Try.prog.cellsOf 5 = 1 := by kernel_rfl
theorem cells9 : Try.prog.cellsOf 9 = 1 := by kernel_rfl
theorem cells26 : Try.prog.cellsOf 26 = 1 := by kernel_rfl
theorem cells43 : Try.prog.cellsOf 43 = 2 := by kernel_rfl
/-- A slice of bytes as it comes in. -/
theorem bytes_in {H : Type} {enc : TypeId × Value → H} {w : World} {a : Option Addr} {n c : Nat} (r : Reads enc Try.prog w 0 (fun _ => true) true 26 [.slice a n c]) : ∃ s : Nat → Int, Elems w w.heap.size a n 1 (bytes s) ∧ (n : Int) ≤ 9223372036854775807 := by
  obtain ⟨hn, C, hC, hE⟩ := open_elems Try.underlying26 cells5 (by omega) r
  obtain ⟨S, hS⟩ := Go.Deep.choose_lt (n := n) (p := fun i (z : Int) => C i = [.int .u8 z]) (fun i hi => by obtain ⟨z, h, _⟩ := reads_int Try.underlying5 (hC i hi).2; exact ⟨z, h⟩)
  refine ⟨S, fun h0 => ?_, hn⟩
  obtain ⟨b, off, e1, e2, e3⟩ := hE h0
  refine ⟨b, off, e1, e2, fun i hi => ?_⟩
  rw [e3 i hi]
  show some ((C (i / 1)).getD (i % 1) _) = _
  rw [Nat.div_one, hS i (by omega), Nat.mod_one]; rfl
/-- The chunks as they come in. -/
theorem chunks_in {H : Type} {enc : TypeId × Value → H} {w : World} (a : Option Addr) (n c : Nat) (r : Reads enc Try.prog w 0 (fun _ => true) true 25 [.slice a n c]) : ∃ p : Ch, LaidC w w.heap.size p ∧ p.a = a ∧ p.n = n ∧ p.c = c := by
  obtain ⟨hn, C, hC, hE⟩ := open_elems Try.underlying25 cells43 (by omega) r
  have key : ∀ i, i < n → ∃ x : ByteArray × (Option Addr × Nat × Nat) × (Nat → Int), C i = [.string x.1, .slice x.2.1.1 x.2.1.2.1 x.2.1.2.2] ∧ (x.1.size : Int) ≤ 9223372036854775807 ∧ Elems w w.heap.size x.2.1.1 x.2.1.2.1 1 (bytes x.2.2) ∧ (x.2.1.2.1 : Int) ≤ 9223372036854775807 := fun i hi => by
    obtain ⟨hl, hr⟩ := hC i hi
    obtain ⟨r0, r1⟩ := reads_struct2 Try.underlying43 rfl rfl cells9 cells26 hr
    obtain ⟨b, e0, hb⟩ := reads_string Try.underlying9 r0
    obtain ⟨sa, sn, sc, e1⟩ := reads_slice Try.underlying26 r1
    rw [e1] at r1
    obtain ⟨s, hs, hsn⟩ := bytes_in r1
    refine ⟨(b, (sa, sn, sc), s), ?_, hb, hs, hsn⟩
    match hcs : C i, hl with
    | [x, y], _ =>
      rw [hcs] at e0 e1
      simp at e0 e1
      rw [e0, e1]
  obtain ⟨X, hX⟩ := Go.Deep.choose_lt (n := n) (p := fun i (x : ByteArray × (Option Addr × Nat × Nat) × (Nat → Int)) => C i = [.string x.1, .slice x.2.1.1 x.2.1.2.1 x.2.1.2.2] ∧ (x.1.size : Int) ≤ 9223372036854775807 ∧ Elems w w.heap.size x.2.1.1 x.2.1.2.1 1 (bytes x.2.2) ∧ (x.2.1.2.1 : Int) ≤ 9223372036854775807) key
  refine ⟨⟨a, n, c, fun i => (X i).1, fun i => (X i).2.1.1, fun i => (X i).2.1.2.1, fun i => (X i).2.1.2.2, fun i => (X i).2.2⟩, ⟨fun h0 => ?_, fun i hi => (hX i hi).2.2.1, hn, fun i hi => (hX i hi).2.1, fun i hi => (hX i hi).2.2.2⟩, rfl, rfl, rfl⟩
  obtain ⟨b, off, e1, e2, e3⟩ := hE h0
  refine ⟨b, off, e1, e2, fun q hq => ?_⟩
  have hq : q < n * 2 := hq
  rw [e3 q hq]
  show some ((C (q / 2)).getD (q % 2) _) = _
  rw [(hX (q / 2) (by omega)).1]
  unfold chCell
  by_cases h2 : q % 2 = 0
  · rw [h2, if_pos rfl]; rfl
  · rw [show q % 2 = 1 by omega, if_neg (by omega)]; rfl

/-! ### THE ROW's STEP -/
set_option maxRecDepth 100000 in
theorem lifted (os : Os) (started : os.Started) (H : Type) (enc : TypeId × Value → H) :
    ReturnsInHanded {} Try.checked os 6 .any (Rows.fnRowBufferSealIdempotentSpec.pre6 enc Try.prog Try.f6 Rows.fnRowBufferSealIdempotentRow.domain false) (Rows.fnRowBufferSealIdempotentSpec.post enc Try.prog Try.f6 false true false false) := by
  refine returnsInHanded_of_change (C := Try.checked) own started (by kernel_rfl) Try.func6
    (ChangeSpec.witness6 (enc := enc) (C := Try.checked) false ⟨#[], #[.int .i64 0, .slice none 0 0, .slice none 0 0, .slice none 0 0, .int .i64 0, .int .i64 0], []⟩ 8 (by kernel_rfl) (by kernel_rfl) (by kernel_rfl) (by kernel_rfl)) ?_
  intro W base args ds gs before hval0 hW hcnd _
  have hval : ∀ (j : Nat) t v, Try.f6.params[j]? = some t → args[j]? = some v → Value.okWide Try.prog W .any base t v := hval0
  have hW' := hW
  obtain ⟨p, q, hA0, hV, rfl, hfz, hnd⟩ := hW
  have hA : DataW.TrodAll enc Try.prog W 0 (fun _ => true) true Try.f6.params.toList args.toList ds p := hA0
  rw [Try.params6] at hA hval
  obtain ⟨v0, vs0, d0, ds0, p0, q0, hargs, rfl, rfl, h0, r0⟩ := trodAll_cons hA
  obtain ⟨v1, vs1, d1, ds1, p1, q1, rfl, rfl, rfl, h1, r1⟩ := trodAll_cons r0
  obtain ⟨v2, vs2, d2, ds2, p2, q2, rfl, rfl, rfl, h2, r2⟩ := trodAll_cons r1
  obtain ⟨v3, vs3, d3, ds3, p3, q3, rfl, rfl, rfl, h3, r3⟩ := trodAll_cons r2
  obtain ⟨v4, vs4, d4, ds4, p4, q4, rfl, rfl, rfl, h4, r4⟩ := trodAll_cons r3
  obtain ⟨v5, vs5, d5, ds5, p5, q5, rfl, rfl, rfl, h5, r5⟩ := trodAll_cons r4
  obtain ⟨rfl, rfl, rfl⟩ := trodAll_nil r5
  obtain rfl : args = #[v0, v1, v2, v3, v4, v5] := by cases args; simp_all
  obtain ⟨rfl, rfl⟩ := trodVars_none hV
  obtain ⟨z0, rfl⟩ := okWide_int Try.underlying3 (hval 0 3 v0 rfl rfl)
  have k0 := h0
  have lt0 : ∀ x ∈ p0, x.block < W.heap.size := by obtain ⟨m, hm⟩ := k0; exact DataW.trod_lt m _ _ _ hm
  have R0 : Reads enc Try.prog W 0 (fun _ => true) true 3 [.int .i64 z0] := by obtain ⟨fu, hf⟩ := h0; exact ⟨fu, _, hf⟩
  obtain ⟨a1, n1, c1, rfl⟩ := okWide_slice Try.underlying25 (hval 1 25 v1 rfl rfl)
  have k1 := h1
  have lt1 : ∀ x ∈ p1, x.block < W.heap.size := by obtain ⟨m, hm⟩ := k1; exact DataW.trod_lt m _ _ _ hm
  have R1 : Reads enc Try.prog W 0 (fun _ => true) true 25 [.slice a1 n1 c1] := by obtain ⟨fu, hf⟩ := h1; exact ⟨fu, _, hf⟩
  obtain ⟨a2, n2, c2, rfl⟩ := okWide_slice Try.underlying26 (hval 2 26 v2 rfl rfl)
  have k2 := h2
  have lt2 : ∀ x ∈ p2, x.block < W.heap.size := by obtain ⟨m, hm⟩ := k2; exact DataW.trod_lt m _ _ _ hm
  have R2 : Reads enc Try.prog W 0 (fun _ => true) true 26 [.slice a2 n2 c2] := by obtain ⟨fu, hf⟩ := h2; exact ⟨fu, _, hf⟩
  obtain ⟨a3, n3, c3, rfl⟩ := okWide_slice Try.underlying26 (hval 3 26 v3 rfl rfl)
  have k3 := h3
  have lt3 : ∀ x ∈ p3, x.block < W.heap.size := by obtain ⟨m, hm⟩ := k3; exact DataW.trod_lt m _ _ _ hm
  have R3 : Reads enc Try.prog W 0 (fun _ => true) true 26 [.slice a3 n3 c3] := by obtain ⟨fu, hf⟩ := h3; exact ⟨fu, _, hf⟩
  obtain ⟨z4, rfl⟩ := okWide_int Try.underlying3 (hval 4 3 v4 rfl rfl)
  have k4 := h4
  have lt4 : ∀ x ∈ p4, x.block < W.heap.size := by obtain ⟨m, hm⟩ := k4; exact DataW.trod_lt m _ _ _ hm
  have R4 : Reads enc Try.prog W 0 (fun _ => true) true 3 [.int .i64 z4] := by obtain ⟨fu, hf⟩ := h4; exact ⟨fu, _, hf⟩
  obtain ⟨z5, rfl⟩ := okWide_int Try.underlying3 (hval 5 3 v5 rfl rfl)
  have k5 := h5
  have lt5 : ∀ x ∈ p5, x.block < W.heap.size := by obtain ⟨m, hm⟩ := k5; exact DataW.trod_lt m _ _ _ hm
  have R5 : Reads enc Try.prog W 0 (fun _ => true) true 3 [.int .i64 z5] := by obtain ⟨fu, hf⟩ := h5; exact ⟨fu, _, hf⟩
  clear hA0 hval0
  obtain ⟨P, hL, rfl, rfl, rfl⟩ := chunks_in a1 n1 c1 R1
  obtain ⟨tb, hT, htn⟩ := bytes_in R2
  obtain ⟨zb, hZ, hzn⟩ := bytes_in R3
  refine (law6 P z0 z4 z5 a2 a3 n2 c2 n3 c3 tb zb W.heap.size W hL hT hZ htn hzn (Nat.le_refl _)).mono fun e W' ⟨he, O⟩ => ?_
  have bel : Below W.heap.size W W' := O.below (Nat.le_refl _) (by simp)
  subst he
  exact ⟨_, rfl, _, _, _, [], _, [], hW', trodAll_mk1 (shut_bool Try.underlying4 _), (trodAll_cons_mk (Below.trod laidOut (by kernel_rfl) (of_decide_eq_true (by kernel_rfl)) k0 bel lt0) (trodAll_cons_mk (Below.trod laidOut (by kernel_rfl) (of_decide_eq_true (by kernel_rfl)) k1 bel lt1) (trodAll_cons_mk (Below.trod laidOut (by kernel_rfl) (of_decide_eq_true (by kernel_rfl)) k2 bel lt2) (trodAll_cons_mk (Below.trod laidOut (by kernel_rfl) (of_decide_eq_true (by kernel_rfl)) k3 bel lt3) (trodAll_cons_mk (Below.trod laidOut (by kernel_rfl) (of_decide_eq_true (by kernel_rfl)) k4 bel lt4) (trodAll_cons_mk (Below.trod laidOut (by kernel_rfl) (of_decide_eq_true (by kernel_rfl)) k5 bel lt5) trodAll_mk0)))))), rfl, bel.frame _, fun h => by cases h⟩

theorem over : Rows.fnRowBufferSealIdempotentRow.holds Try.pinned (OpenSpec.ofChange Rows.fnRowBufferSealIdempotentSpec) :=
  OpenClaim.holds_of_wide 6 Try.f6 rfl rfl rfl rfl rfl rfl rfl ⟨rfl, rfl, rfl, rfl, rfl⟩ rfl rfl rfl rfl rfl (by kernel_rfl) Try.func6 Rb_closed
    (of_decide_eq_true (by kernel_rfl)) (by unfold Func.isWrapper; first | (rw [if_pos (by decide +kernel)]; kernel_rfl) | (rw [if_neg (by decide +kernel)]; exact ⟨rfl, rfl⟩))
    (fun os started H enc _ => lifted os started H enc)

end Go.Proofs.Qxb6602660a.fnRowBufferSealIdempotent
namespace Go.Proofs.Qxb6602660a
/-- ████ THE STATEMENT ████ -/
theorem fnRowBufferSealIdempotent_proved : Rows.FnRowBufferSealIdempotentSaid := fnRowBufferSealIdempotent.over
end Go.Proofs.Qxb6602660a
