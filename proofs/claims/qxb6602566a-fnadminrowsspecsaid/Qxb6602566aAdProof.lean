/-
  THE PROOF OF 'Rows.FnAdminRowsSpecSaid': the arguments opened, the walk, the statement.
-/
import Derived.Test.Qxb6602566aAdLaw3
import Derived.Test.Qxb6602566aAdOpen
import Derived.Test.Qxb6602566aAdClosed
import Derived.Test.Qxb6602566aRows
import Derived.WalkKit
import Derived.ProofKit
import Derived.OpenShut
import Derived.ShutString
import Derived.ChangeOld
import Derived.Below
namespace Go.Proofs.Qxb6602566a.fnAdminRowsSpec
open Go.ChangeShapes Go.WideShapes Go.ChangeAt Go.RowKit
set_option linter.unusedVariables false

theorem own : ownKnob Try.prog.godebug = none := by kernel_rfl
theorem laidOut : laidOutB Try.prog = true := by kernel_rfl
theorem cells9 : Try.prog.cellsOf 9 = 1 := by kernel_rfl
theorem cells4 : Try.prog.cellsOf 4 = 1 := by kernel_rfl
theorem cells2 : Try.prog.cellsOf 2 = 1 := by kernel_rfl
theorem cells38 : Try.prog.cellsOf 38 = 4 := by kernel_rfl
theorem cells41 : Try.prog.cellsOf 41 = 7 := by kernel_rfl
theorem cells22 : Try.prog.cellsOf 22 = 1 := by kernel_rfl
theorem cells23 : Try.prog.cellsOf 23 = 1 := by kernel_rfl
theorem cells42 : Try.prog.cellsOf 42 = 1 := by kernel_rfl

/-- The arguments as they come in are plain data that lie in memory. -/
theorem laid_in {H : Type} {enc : TypeId × Value → H} {w : World} (ver hea : ByteArray) (sti : Int) (a3 a4 a5 a6 a7 a8 : Option Addr) (n3 c3 n4 c4 n5 c5 n6 c6 n7 c7 n8 c8 : Nat)
    (r0 : Reads enc Try.prog w 0 (fun _ => true) true 9 [.string ver]) (r1 : Reads enc Try.prog w 0 (fun _ => true) true 9 [.string hea])
    (r3 : Reads enc Try.prog w 0 (fun _ => true) true 22 [.slice a3 n3 c3]) (r4 : Reads enc Try.prog w 0 (fun _ => true) true 23 [.slice a4 n4 c4]) (r5 : Reads enc Try.prog w 0 (fun _ => true) true 24 [.slice a5 n5 c5])
    (r6 : Reads enc Try.prog w 0 (fun _ => true) true 25 [.slice a6 n6 c6]) (r7 : Reads enc Try.prog w 0 (fun _ => true) true 26 [.slice a7 n7 c7]) (r8 : Reads enc Try.prog w 0 (fun _ => true) true 27 [.slice a8 n8 c8]) :
    ∃ m : A, Laid w w.heap.size m ∧ m.ver = ver ∧ m.hea = hea ∧ m.st = sti ∧ m.a3 = a3 ∧ m.n3 = n3 ∧ m.c3 = c3 ∧ m.a4 = a4 ∧ m.n4 = n4 ∧ m.c4 = c4 ∧ m.a5 = a5 ∧ m.n5 = n5 ∧ m.c5 = c5 ∧ m.a6 = a6 ∧ m.n6 = n6 ∧ m.c6 = c6 ∧ m.a7 = a7 ∧ m.n7 = n7 ∧ m.c7 = c7 ∧ m.a8 = a8 ∧ m.n8 = n8 ∧ m.c8 = c8 := by
  obtain ⟨s0, e0, z0⟩ := reads_string Try.underlying9 r0
  obtain ⟨s1, e1, z1⟩ := reads_string Try.underlying9 r1
  simp at e0 e1
  subst e0 e1
  obtain ⟨N3, E3, l3, y3⟩ := open_strs' Try.underlying22 Try.underlying9 cells9 r3
  obtain ⟨P4, E4, l4⟩ := open_bools' Try.underlying23 Try.underlying4 cells4 r4
  obtain ⟨Z5, E5, l5, _⟩ := open_arrays (s := 4) Try.underlying24 Try.underlying38 Try.underlying2 cells38 (by omega) cells2 r5
  obtain ⟨b6, m6, d6, E6, l6, R6⟩ := open_rows Try.underlying25 Try.underlying22 cells22 r6
  obtain ⟨b7, m7, d7, E7, l7, R7⟩ := open_rows Try.underlying26 Try.underlying23 cells23 r7
  obtain ⟨b8, m8, d8, E8, l8, R8⟩ := open_rows Try.underlying27 Try.underlying42 cells42 r8
  obtain ⟨C6, H6⟩ := Go.Deep.choose_lt (n := n6) (p := fun i (S : Nat → ByteArray) => Elems w w.heap.size (b6 i) (m6 i) 1 (fun j => .string (S j)) ∧ (m6 i : Int) ≤ 9223372036854775807 ∧ ∀ j, j < m6 i → ((S j).size : Int) ≤ 9223372036854775807) (fun i hi => open_strs' Try.underlying22 Try.underlying9 cells9 (R6 i hi))
  obtain ⟨C7, H7⟩ := Go.Deep.choose_lt (n := n7) (p := fun i (S : Nat → Bool) => Elems w w.heap.size (b7 i) (m7 i) 1 (fun j => .bool (S j)) ∧ (m7 i : Int) ≤ 9223372036854775807) (fun i hi => open_bools' Try.underlying23 Try.underlying4 cells4 (R7 i hi))
  obtain ⟨C8, H8⟩ := Go.Deep.choose_lt (n := n8) (p := fun i (S : Nat → Nat → Int) => Elems w w.heap.size (b8 i) (m8 i) 7 (fun j => .int .i64 (S (j / 7) (j % 7))) ∧ (m8 i : Int) ≤ 9223372036854775807) (fun i hi => by
    obtain ⟨S, h1, h2, _⟩ := open_arrays (s := 7) Try.underlying42 Try.underlying41 Try.underlying2 cells41 (by omega) cells2 (R8 i hi)
    exact ⟨S, h1, h2⟩)
  refine ⟨{ ver := ver, hea := hea, st := sti, a3 := a3, a4 := a4, a5 := a5, a6 := a6, a7 := a7, a8 := a8, n3 := n3, c3 := c3, n4 := n4, c4 := c4, n5 := n5, c5 := c5, n6 := n6, c6 := c6, n7 := n7, c7 := c7, n8 := n8, c8 := c8, name := N3, pau := P4, num := Z5, b6 := b6, b7 := b7, b8 := b8, m6 := m6, m7 := m7, m8 := m8, d6 := d6, d7 := d7, d8 := d8, cname := C6, cpau := C7, cnum := C8 }, ?_, rfl, rfl, rfl, rfl, rfl, rfl, rfl, rfl, rfl, rfl, rfl, rfl, rfl, rfl, rfl, rfl, rfl, rfl, rfl, rfl, rfl⟩
  exact ⟨E3, E4, E5, E6, E7, E8, fun i hi => (H6 i hi).1, fun i hi => (H7 i hi).1, fun i hi => (H8 i hi).1, z0, z1, l3, l4, l5, l6, l7, l8, y3, fun i hi => (H6 i hi).2.1, fun i hi => (H7 i hi).2, fun i hi => (H8 i hi).2, fun i hi j hj => (H6 i hi).2.2 j hj⟩

/-! ### THE ROW's STEP -/
set_option maxRecDepth 100000 in
theorem lifted (os : Os) (started : os.Started) (H : Type) (enc : TypeId × Value → H) :
    ReturnsInHanded {} Try.checked os 3 .any (Rows.fnAdminRowsSpecSpec.pre6 enc Try.prog Try.f3 Rows.fnAdminRowsSpecRow.domain false) (Rows.fnAdminRowsSpecSpec.post enc Try.prog Try.f3 false true false false) := by
  refine returnsInHanded_of_change (C := Try.checked) own started (by kernel_rfl) Try.func3
    (ChangeSpec.witness6 (enc := enc) (C := Try.checked) false ⟨#[], #[.string ⟨#[]⟩, .string ⟨#[]⟩, .int .i64 0, .slice none 0 0, .slice none 0 0, .slice none 0 0, .slice none 0 0, .slice none 0 0, .slice none 0 0], []⟩ 8 (by kernel_rfl) (by kernel_rfl) (by kernel_rfl) (by kernel_rfl)) ?_
  intro W base args ds gs before hval0 hW hcnd _
  have hval : ∀ (j : Nat) t v, Try.f3.params[j]? = some t → args[j]? = some v → Value.okWide Try.prog W .any base t v := hval0
  have hW' := hW
  obtain ⟨p, q, hA0, hV, rfl, hfz, hnd⟩ := hW
  have hA : DataW.TrodAll enc Try.prog W 0 (fun _ => true) true Try.f3.params.toList args.toList ds p := hA0
  rw [Try.params3] at hA hval
  obtain ⟨v0, vs0, d0, ds0, p0, q0, hargs, rfl, rfl, h0, r0⟩ := trodAll_cons hA
  obtain ⟨v1, vs1, d1, ds1, p1, q1, rfl, rfl, rfl, h1, r1⟩ := trodAll_cons r0
  obtain ⟨v2, vs2, d2, ds2, p2, q2, rfl, rfl, rfl, h2, r2⟩ := trodAll_cons r1
  obtain ⟨v3, vs3, d3, ds3, p3, q3, rfl, rfl, rfl, h3, r3⟩ := trodAll_cons r2
  obtain ⟨v4, vs4, d4, ds4, p4, q4, rfl, rfl, rfl, h4, r4⟩ := trodAll_cons r3
  obtain ⟨v5, vs5, d5, ds5, p5, q5, rfl, rfl, rfl, h5, r5⟩ := trodAll_cons r4
  obtain ⟨v6, vs6, d6, ds6, p6, q6, rfl, rfl, rfl, h6, r6⟩ := trodAll_cons r5
  obtain ⟨v7, vs7, d7, ds7, p7, q7, rfl, rfl, rfl, h7, r7⟩ := trodAll_cons r6
  obtain ⟨v8, vs8, d8, ds8, p8, q8, rfl, rfl, rfl, h8, r8⟩ := trodAll_cons r7
  obtain ⟨rfl, rfl, rfl⟩ := trodAll_nil r8
  obtain rfl : args = #[v0, v1, v2, v3, v4, v5, v6, v7, v8] := by cases args; simp_all
  obtain ⟨rfl, rfl⟩ := trodVars_none hV
  obtain ⟨s0, rfl⟩ := okWide_string Try.underlying9 (hval 0 9 v0 rfl rfl)
  have k0 := h0
  have lt0 : ∀ x ∈ p0, x.block < W.heap.size := by obtain ⟨m, hm⟩ := k0; exact DataW.trod_lt m _ _ _ hm
  have R0 : Reads enc Try.prog W 0 (fun _ => true) true 9 [.string s0] := by obtain ⟨fu, hf⟩ := h0; exact ⟨fu, _, hf⟩
  obtain ⟨s1, rfl⟩ := okWide_string Try.underlying9 (hval 1 9 v1 rfl rfl)
  have k1 := h1
  have lt1 : ∀ x ∈ p1, x.block < W.heap.size := by obtain ⟨m, hm⟩ := k1; exact DataW.trod_lt m _ _ _ hm
  have R1 : Reads enc Try.prog W 0 (fun _ => true) true 9 [.string s1] := by obtain ⟨fu, hf⟩ := h1; exact ⟨fu, _, hf⟩
  obtain ⟨z2, rfl⟩ := okWide_int Try.underlying2 (hval 2 2 v2 rfl rfl)
  have k2 := h2
  have lt2 : ∀ x ∈ p2, x.block < W.heap.size := by obtain ⟨m, hm⟩ := k2; exact DataW.trod_lt m _ _ _ hm
  obtain ⟨a3, n3, c3, rfl⟩ := okWide_slice Try.underlying22 (hval 3 22 v3 rfl rfl)
  have k3 := h3
  have lt3 : ∀ x ∈ p3, x.block < W.heap.size := by obtain ⟨m, hm⟩ := k3; exact DataW.trod_lt m _ _ _ hm
  have R3 : Reads enc Try.prog W 0 (fun _ => true) true 22 [.slice a3 n3 c3] := by obtain ⟨fu, hf⟩ := h3; exact ⟨fu, _, hf⟩
  obtain ⟨a4, n4, c4, rfl⟩ := okWide_slice Try.underlying23 (hval 4 23 v4 rfl rfl)
  have k4 := h4
  have lt4 : ∀ x ∈ p4, x.block < W.heap.size := by obtain ⟨m, hm⟩ := k4; exact DataW.trod_lt m _ _ _ hm
  have R4 : Reads enc Try.prog W 0 (fun _ => true) true 23 [.slice a4 n4 c4] := by obtain ⟨fu, hf⟩ := h4; exact ⟨fu, _, hf⟩
  obtain ⟨a5, n5, c5, rfl⟩ := okWide_slice Try.underlying24 (hval 5 24 v5 rfl rfl)
  have k5 := h5
  have lt5 : ∀ x ∈ p5, x.block < W.heap.size := by obtain ⟨m, hm⟩ := k5; exact DataW.trod_lt m _ _ _ hm
  have R5 : Reads enc Try.prog W 0 (fun _ => true) true 24 [.slice a5 n5 c5] := by obtain ⟨fu, hf⟩ := h5; exact ⟨fu, _, hf⟩
  obtain ⟨a6, n6, c6, rfl⟩ := okWide_slice Try.underlying25 (hval 6 25 v6 rfl rfl)
  have k6 := h6
  have lt6 : ∀ x ∈ p6, x.block < W.heap.size := by obtain ⟨m, hm⟩ := k6; exact DataW.trod_lt m _ _ _ hm
  have R6 : Reads enc Try.prog W 0 (fun _ => true) true 25 [.slice a6 n6 c6] := by obtain ⟨fu, hf⟩ := h6; exact ⟨fu, _, hf⟩
  obtain ⟨a7, n7, c7, rfl⟩ := okWide_slice Try.underlying26 (hval 7 26 v7 rfl rfl)
  have k7 := h7
  have lt7 : ∀ x ∈ p7, x.block < W.heap.size := by obtain ⟨m, hm⟩ := k7; exact DataW.trod_lt m _ _ _ hm
  have R7 : Reads enc Try.prog W 0 (fun _ => true) true 26 [.slice a7 n7 c7] := by obtain ⟨fu, hf⟩ := h7; exact ⟨fu, _, hf⟩
  obtain ⟨a8, n8, c8, rfl⟩ := okWide_slice Try.underlying27 (hval 8 27 v8 rfl rfl)
  have k8 := h8
  have lt8 : ∀ x ∈ p8, x.block < W.heap.size := by obtain ⟨m, hm⟩ := k8; exact DataW.trod_lt m _ _ _ hm
  have R8 : Reads enc Try.prog W 0 (fun _ => true) true 27 [.slice a8 n8 c8] := by obtain ⟨fu, hf⟩ := h8; exact ⟨fu, _, hf⟩
  clear hA0 hval0
  obtain ⟨m, hL, rfl, rfl, rfl, rfl, rfl, rfl, rfl, rfl, rfl, rfl, rfl, rfl, rfl, rfl, rfl, rfl, rfl, rfl, rfl, rfl, rfl⟩ := laid_in s0 s1 z2 a3 a4 a5 a6 a7 a8 n3 c3 n4 c4 n5 c5 n6 c6 n7 c7 n8 c8 R0 R1 R3 R4 R5 R6 R7 R8
  refine (law3 m W.heap.size W hL (Nat.le_refl _)).mono fun e W' ⟨he, O⟩ => ?_
  have bel : Below W.heap.size W W' := O.below (Nat.le_refl _) (by simp)
  subst he
  exact ⟨_, rfl, _, _, _, [], _, [], hW', trodAll_mk1 (shut_bool Try.underlying4 _), (trodAll_cons_mk (Below.trod laidOut (by kernel_rfl) (of_decide_eq_true (by kernel_rfl)) k0 bel lt0) (trodAll_cons_mk (Below.trod laidOut (by kernel_rfl) (of_decide_eq_true (by kernel_rfl)) k1 bel lt1) (trodAll_cons_mk (Below.trod laidOut (by kernel_rfl) (of_decide_eq_true (by kernel_rfl)) k2 bel lt2) (trodAll_cons_mk (Below.trod laidOut (by kernel_rfl) (of_decide_eq_true (by kernel_rfl)) k3 bel lt3) (trodAll_cons_mk (Below.trod laidOut (by kernel_rfl) (of_decide_eq_true (by kernel_rfl)) k4 bel lt4) (trodAll_cons_mk (Below.trod laidOut (by kernel_rfl) (of_decide_eq_true (by kernel_rfl)) k5 bel lt5) (trodAll_cons_mk (Below.trod laidOut (by kernel_rfl) (of_decide_eq_true (by kernel_rfl)) k6 bel lt6) (trodAll_cons_mk (Below.trod laidOut (by kernel_rfl) (of_decide_eq_true (by kernel_rfl)) k7 bel lt7) (trodAll_cons_mk (Below.trod laidOut (by kernel_rfl) (of_decide_eq_true (by kernel_rfl)) k8 bel lt8) trodAll_mk0))))))))), rfl, bel.frame _, fun h => by cases h⟩

theorem over : Rows.fnAdminRowsSpecRow.holds Try.pinned (OpenSpec.ofChange Rows.fnAdminRowsSpecSpec) :=
  OpenClaim.holds_of_wide 3 Try.f3 rfl rfl rfl rfl rfl rfl rfl ⟨rfl, rfl, rfl, rfl, rfl⟩ rfl rfl rfl rfl rfl (by kernel_rfl) Try.func3 Ad_closed
    (of_decide_eq_true (by kernel_rfl)) (by unfold Func.isWrapper; first | (rw [if_pos (by decide +kernel)]; kernel_rfl) | (rw [if_neg (by decide +kernel)]; exact ⟨rfl, rfl⟩))
    (fun os started H enc _ => lifted os started H enc)

end Go.Proofs.Qxb6602566a.fnAdminRowsSpec
namespace Go.Proofs.Qxb6602566a
/-- ████ THE STATEMENT ████ -/
theorem fnAdminRowsSpec_proved : Rows.FnAdminRowsSpecSaid := fnAdminRowsSpec.over
end Go.Proofs.Qxb6602566a
