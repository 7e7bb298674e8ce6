/-
  THE PROOF OF 'Rows.FnLayerIsShortestChainByLevelsSaid': the arguments opened, the walk, the statement.
-/
import Derived.Test.Qxb6602564aLvLaw9
import Derived.Test.Qxb6602564aLyOpen
import Derived.Test.Qxb6602564aLevelsClosed
import Derived.Test.Qxb6602564aRows
import Derived.WalkKit
import Derived.ProofKit
import Derived.OpenShut
import Derived.ShutString
import Derived.ChangeOld
import Derived.Below
namespace Go.Proofs.Qxb6602564a.fnLayerIsShortestChainByLevels
open Go.ChangeShapes Go.WideShapes Go.ChangeAt Go.RowKit
set_option linter.unusedVariables false

theorem own : ownKnob Try.prog.godebug = none := by kernel_rfl
theorem laidOut : laidOutB Try.prog = true := by kernel_rfl

/-! ### THE ROW's STEP -/
set_option maxRecDepth 100000 in
theorem lifted (os : Os) (started : os.Started) (H : Type) (enc : TypeId × Value → H) :
    ReturnsInHanded {} Try.checked os 9 .any (Rows.fnLayerIsShortestChainByLevelsSpec.pre6 enc Try.prog Try.f9 Rows.fnLayerIsShortestChainByLevelsRow.domain false) (Rows.fnLayerIsShortestChainByLevelsSpec.post enc Try.prog Try.f9 false true false false) := by
  refine returnsInHanded_of_change (C := Try.checked) own started (by kernel_rfl) Try.func9
    (ChangeSpec.witness6 (enc := enc) (C := Try.checked) false ⟨#[], #[.agg #[.slice none 0 0, .slice none 0 0, .slice none 0 0, .slice none 0 0, .slice none 0 0, .slice none 0 0, .slice none 0 0, .int .i64 0, .slice none 0 0, .slice none 0 0, .slice none 0 0, .slice none 0 0], .int .i64 0, .int .i64 0, .int .i64 0, .int .i64 0], []⟩ 8 (by kernel_rfl) (by kernel_rfl) (by kernel_rfl) (by kernel_rfl)) ?_
  intro W base args ds gs before hval0 hW hcnd _
  have hval : ∀ (j : Nat) t v, Try.f9.params[j]? = some t → args[j]? = some v → Value.okWide Try.prog W .any base t v := hval0
  have hW' := hW
  obtain ⟨p, q, hA0, hV, rfl, hfz, hnd⟩ := hW
  have hA : DataW.TrodAll enc Try.prog W 0 (fun _ => true) true Try.f9.params.toList args.toList ds p := hA0
  rw [Try.params9] at hA hval
  obtain ⟨v0, vs0, d0, ds0, p0, q0, hargs, rfl, rfl, h0, r0⟩ := trodAll_cons hA
  obtain ⟨v1, vs1, d1, ds1, p1, q1, rfl, rfl, rfl, h1, r1⟩ := trodAll_cons r0
  obtain ⟨v2, vs2, d2, ds2, p2, q2, rfl, rfl, rfl, h2, r2⟩ := trodAll_cons r1
  obtain ⟨v3, vs3, d3, ds3, p3, q3, rfl, rfl, rfl, h3, r3⟩ := trodAll_cons r2
  obtain ⟨v4, vs4, d4, ds4, p4, q4, rfl, rfl, rfl, h4, r4⟩ := trodAll_cons r3
  obtain ⟨rfl, rfl, rfl⟩ := trodAll_nil r4
  obtain rfl : args = #[v0, v1, v2, v3, v4] := by cases args; simp_all
  obtain ⟨rfl, rfl⟩ := trodVars_none hV
  obtain ⟨cs0, rfl, hcs0⟩ := okWide_struct Try.underlying37 (hval 0 37 v0 rfl rfl)
  have k0 := h0
  have lt0 : ∀ x ∈ p0, x.block < W.heap.size := by obtain ⟨m, hm⟩ := k0; exact DataW.trod_lt m _ _ _ hm
  have R0 : Reads enc Try.prog W 0 (fun _ => true) true 37 cs0.toList := by obtain ⟨fu, hf⟩ := h0; exact ⟨fu, _, hf⟩
  obtain ⟨z1, rfl⟩ := okWide_int Try.underlying3 (hval 1 3 v1 rfl rfl)
  have k1 := h1
  have lt1 : ∀ x ∈ p1, x.block < W.heap.size := by obtain ⟨m, hm⟩ := k1; exact DataW.trod_lt m _ _ _ hm
  have R1 : Reads enc Try.prog W 0 (fun _ => true) true 3 [.int .i64 z1] := by obtain ⟨fu, hf⟩ := h1; exact ⟨fu, _, hf⟩
  obtain ⟨z2, rfl⟩ := okWide_int Try.underlying3 (hval 2 3 v2 rfl rfl)
  have k2 := h2
  have lt2 : ∀ x ∈ p2, x.block < W.heap.size := by obtain ⟨m, hm⟩ := k2; exact DataW.trod_lt m _ _ _ hm
  have R2 : Reads enc Try.prog W 0 (fun _ => true) true 3 [.int .i64 z2] := by obtain ⟨fu, hf⟩ := h2; exact ⟨fu, _, hf⟩
  obtain ⟨z3, rfl⟩ := okWide_int Try.underlying3 (hval 3 3 v3 rfl rfl)
  have k3 := h3
  have lt3 : ∀ x ∈ p3, x.block < W.heap.size := by obtain ⟨m, hm⟩ := k3; exact DataW.trod_lt m _ _ _ hm
  have R3 : Reads enc Try.prog W 0 (fun _ => true) true 3 [.int .i64 z3] := by obtain ⟨fu, hf⟩ := h3; exact ⟨fu, _, hf⟩
  obtain ⟨z4, rfl⟩ := okWide_int Try.underlying3 (hval 4 3 v4 rfl rfl)
  have k4 := h4
  have lt4 : ∀ x ∈ p4, x.block < W.heap.size := by obtain ⟨m, hm⟩ := k4; exact DataW.trod_lt m _ _ _ hm
  have R4 : Reads enc Try.prog W 0 (fun _ => true) true 3 [.int .i64 z4] := by obtain ⟨fu, hf⟩ := h4; exact ⟨fu, _, hf⟩
  clear hA0 hval0
  obtain ⟨m, rfl, hL⟩ := masters_in cs0 (by rw [hcs0]; exact Try.cells37) R0
  refine (law9 m z1 z2 z3 z4 W hL).mono fun e W' ⟨he, O⟩ => ?_
  have bel : Below W.heap.size W W' := O.below (Nat.le_refl _) (by simp)
  subst he
  exact ⟨_, rfl, _, _, _, [], _, [], hW', trodAll_mk1 (shut_bool Try.underlying4 _), (trodAll_cons_mk (Below.trod laidOut (by kernel_rfl) (of_decide_eq_true (by kernel_rfl)) k0 bel lt0) (trodAll_cons_mk (Below.trod laidOut (by kernel_rfl) (of_decide_eq_true (by kernel_rfl)) k1 bel lt1) (trodAll_cons_mk (Below.trod laidOut (by kernel_rfl) (of_decide_eq_true (by kernel_rfl)) k2 bel lt2) (trodAll_cons_mk (Below.trod laidOut (by kernel_rfl) (of_decide_eq_true (by kernel_rfl)) k3 bel lt3) (trodAll_cons_mk (Below.trod laidOut (by kernel_rfl) (of_decide_eq_true (by kernel_rfl)) k4 bel lt4) trodAll_mk0))))), rfl, bel.frame _, fun h => by cases h⟩

theorem over : Rows.fnLayerIsShortestChainByLevelsRow.holds Try.pinned (OpenSpec.ofChange Rows.fnLayerIsShortestChainByLevelsSpec) :=
  OpenClaim.holds_of_wide 9 Try.f9 rfl rfl rfl rfl rfl rfl rfl ⟨rfl, rfl, rfl, rfl, rfl⟩ rfl rfl rfl rfl rfl (by kernel_rfl) Try.func9 Levels_closed
    (of_decide_eq_true (by kernel_rfl)) (by unfold Func.isWrapper; first | (rw [if_pos (by decide +kernel)]; kernel_rfl) | (rw [if_neg (by decide +kernel)]; exact ⟨rfl, rfl⟩))
    (fun os started H enc _ => lifted os started H enc)

end Go.Proofs.Qxb6602564a.fnLayerIsShortestChainByLevels
namespace Go.Proofs.Qxb6602564a
/-- ████ THE STATEMENT ████ -/
theorem fnLayerIsShortestChainByLevels_proved : Rows.FnLayerIsShortestChainByLevelsSaid := fnLayerIsShortestChainByLevels.over
end Go.Proofs.Qxb6602564a
