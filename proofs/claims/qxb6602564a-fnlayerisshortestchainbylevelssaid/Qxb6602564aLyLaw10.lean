/-
  THE LAW: a second search answers as a first one does.
-/
import Derived.Test.Qxb6602564aLyZz
import Derived.Test.Qxb6602564aLyMast
import Derived.Deep.CutRange
namespace Go.Proofs.Qxb6602564a
open Go.RowKit
set_option linter.unusedVariables false
def LawP10 (w : World) (e : Ending) (w' : World) : Prop := e = .returned (.bool true) ∧ Only [] w w'
theorem setN_row {w : World} {b : Nat} {g : Nat → Value} (m : M) (r : Row w b 37 12 g) : Row (setN w b 0 (acell m) 12) b 37 12 (acell m) := (r.setN 0 (acell m) 12).ext (fun i hi => by rw [if_pos ⟨by omega, by omega⟩]; rfl)
theorem laid_grow {w w' : World} {m : M} (h : Laid w w.heap.size m) (b : Below w.heap.size w w') : Laid w' w'.heap.size m := by
  have h1 := h.keep b
  have hs := b.size
  exact { h0 := h1.h0.up (Only.refl _ _) hs, h1 := h1.h1.up (Only.refl _ _) hs, h2 := h1.h2.up (Only.refl _ _) hs, h3 := h1.h3.up (Only.refl _ _) hs, h4 := h1.h4.up (Only.refl _ _) hs, h5 := h1.h5.up (Only.refl _ _) hs, h6 := h1.h6.up (Only.refl _ _) hs, h9 := h1.h9.up (Only.refl _ _) hs, h10 := h1.h10.up (Only.refl _ _) hs, h11 := h1.h11.up (Only.refl _ _) hs, h8 := (fun hn => by obtain ⟨b, o, e, hb, hc⟩ := h1.h8 hn; exact ⟨b, o, e, by omega, hc⟩), hu := (fun i hi => (h1.hu i hi).up (Only.refl _ _) hs), q0 := h.q0, q1 := h.q1, q2 := h.q2, q4 := h.q4, q5 := h.q5, q6 := h.q6, qu := h.qu, z0 := h.z0, z1 := h.z1, z2 := h.z2, z3 := h.z3, z4 := h.z4, z5 := h.z5, z6 := h.z6, z8 := h.z8, z9 := h.z9, z10 := h.z10, z11 := h.z11, zu := h.zu }
set_option maxRecDepth 100000 in
set_option maxHeartbeats 8000000 in
theorem law10 (m : M) (x1 x2 x3 x4 flo fhi tlo thi : Int) (w : World) (hL : Laid w w.heap.size m) :
    Calls Try.prog 10 #[.agg #[.slice m.a0 m.n0 m.c0, .slice m.a1 m.n1 m.c1, .slice m.a2 m.n2 m.c2, .slice m.a3 m.n3 m.c3, .slice m.a4 m.n4 m.c4, .slice m.a5 m.n5 m.c5, .slice m.a6 m.n6 m.c6, .int .i64 m.k, .slice m.a8 m.n8 m.c8, .slice m.a9 m.n9 m.c9, .slice m.a10 m.n10 m.c10, .slice m.a11 m.n11 m.c11], .int .i64 x1, .int .i64 x2, .int .i64 x3, .int .i64 x4, .int .i64 flo, .int .i64 fhi, .int .i64 tlo, .int .i64 thi] w fun e w' => LawP10 w e w' := by
  obtain ⟨wb, hwb⟩ : ∃ wb, wb = w.alloc (.cells #[.slice m.a0 m.n0 m.c0, .slice m.a1 m.n1 m.c1, .slice m.a2 m.n2 m.c2, .slice m.a3 m.n3 m.c3, .slice m.a4 m.n4 m.c4, .slice m.a5 m.n5 m.c5, .slice m.a6 m.n6 m.c6, .int .i64 m.k, .slice m.a8 m.n8 m.c8, .slice m.a9 m.n9 m.c9, .slice m.a10 m.n10 m.c10, .slice m.a11 m.n11 m.c11] 37) := ⟨_, rfl⟩
  have Ob : Only [] w wb := by rw [hwb]; exact Only.alloc _ _ _
  have zb : wb.heap.size = w.heap.size + 1 := by rw [hwb]; simp
  have rb : Row wb w.heap.size 37 12 (acell m) := by
    rw [hwb]
    refine (Row.made w #[.slice m.a0 m.n0 m.c0, .slice m.a1 m.n1 m.c1, .slice m.a2 m.n2 m.c2, .slice m.a3 m.n3 m.c3, .slice m.a4 m.n4 m.c4, .slice m.a5 m.n5 m.c5, .slice m.a6 m.n6 m.c6, .int .i64 m.k, .slice m.a8 m.n8 m.c8, .slice m.a9 m.n9 m.c9, .slice m.a10 m.n10 m.c10, .slice m.a11 m.n11 m.c11] 37).ext (fun i hi => ?_)
    have hi : i < 12 := hi
    obtain rfl | rfl | rfl | rfl | rfl | rfl | rfl | rfl | rfl | rfl | rfl | rfl : i = 0 ∨ i = 1 ∨ i = 2 ∨ i = 3 ∨ i = 4 ∨ i = 5 ∨ i = 6 ∨ i = 7 ∨ i = 8 ∨ i = 9 ∨ i = 10 ∨ i = 11 := by omega
    all_goals rfl
  have hL1 : Laid wb w.heap.size m := hL.keep (Ob.below (Nat.le_refl _) (by simp))
  have a0 : wb.cell? ⟨w.heap.size, 0, none⟩ = some (.slice m.a0 m.n0 m.c0) := rb.cell (i := 0) (by omega)
  have a1 : wb.cell? ⟨w.heap.size, 1, none⟩ = some (.slice m.a1 m.n1 m.c1) := rb.cell (i := 1) (by omega)
  have a2 : wb.cell? ⟨w.heap.size, 2, none⟩ = some (.slice m.a2 m.n2 m.c2) := rb.cell (i := 2) (by omega)
  have a3 : wb.cell? ⟨w.heap.size, 3, none⟩ = some (.slice m.a3 m.n3 m.c3) := rb.cell (i := 3) (by omega)
  have a4 : wb.cell? ⟨w.heap.size, 4, none⟩ = some (.slice m.a4 m.n4 m.c4) := rb.cell (i := 4) (by omega)
  have a5 : wb.cell? ⟨w.heap.size, 5, none⟩ = some (.slice m.a5 m.n5 m.c5) := rb.cell (i := 5) (by omega)
  have a6 : wb.cell? ⟨w.heap.size, 6, none⟩ = some (.slice m.a6 m.n6 m.c6) := rb.cell (i := 6) (by omega)
  have a7 : wb.cell? ⟨w.heap.size, 7, none⟩ = some (.int .i64 m.k) := rb.cell (i := 7) (by omega)
  have a8 : wb.cell? ⟨w.heap.size, 8, none⟩ = some (.slice m.a8 m.n8 m.c8) := rb.cell (i := 8) (by omega)
  have a9 : wb.cell? ⟨w.heap.size, 9, none⟩ = some (.slice m.a9 m.n9 m.c9) := rb.cell (i := 9) (by omega)
  have a10 : wb.cell? ⟨w.heap.size, 10, none⟩ = some (.slice m.a10 m.n10 m.c10) := rb.cell (i := 10) (by omega)
  have a11 : wb.cell? ⟨w.heap.size, 11, none⟩ = some (.slice m.a11 m.n11 m.c11) := rb.cell (i := 11) (by omega)
  have HW : Hid (wb = _) := hwb
  have HZ : Hid (wb.heap.size = w.heap.size + 1) := zb
  clear hwb zb
  go_enter Try.func10, Try.ntmps10
  go_upto_region 1 with fail
  rw [← HW.out]
  go_wp2_with fail
  refine (zzBytes37 m x1 x2 x3 x4 flo fhi tlo thi w.heap.size wb (by have := HZ.out; omega) hL1).mono ?_
  rintro e w0 ⟨⟨r, rfl, _⟩, B0⟩
  have hz := HZ.out
  have O0 : Only [] w w0 := Ob.trans (Only.of_below B0)
  cases r with
  | false =>
    clear hz
    go_wp2
    go_ret
    exact ⟨rfl, O0⟩
  | true =>
    have r0 := rb.below B0 (by omega)
    have hL2 : Laid w0 w.heap.size m := hL1.keep (B0.mono (by omega))
    have hs0 := B0.size
    have b0 : w0.cell? ⟨w.heap.size, 0, none⟩ = some (.slice m.a0 m.n0 m.c0) := r0.cell (i := 0) (by omega)
    have b1 : w0.cell? ⟨w.heap.size, 1, none⟩ = some (.slice m.a1 m.n1 m.c1) := r0.cell (i := 1) (by omega)
    have b2 : w0.cell? ⟨w.heap.size, 2, none⟩ = some (.slice m.a2 m.n2 m.c2) := r0.cell (i := 2) (by omega)
    have b3 : w0.cell? ⟨w.heap.size, 3, none⟩ = some (.slice m.a3 m.n3 m.c3) := r0.cell (i := 3) (by omega)
    have b4 : w0.cell? ⟨w.heap.size, 4, none⟩ = some (.slice m.a4 m.n4 m.c4) := r0.cell (i := 4) (by omega)
    have b5 : w0.cell? ⟨w.heap.size, 5, none⟩ = some (.slice m.a5 m.n5 m.c5) := r0.cell (i := 5) (by omega)
    have b6 : w0.cell? ⟨w.heap.size, 6, none⟩ = some (.slice m.a6 m.n6 m.c6) := r0.cell (i := 6) (by omega)
    have b7 : w0.cell? ⟨w.heap.size, 7, none⟩ = some (.int .i64 m.k) := r0.cell (i := 7) (by omega)
    have b8 : w0.cell? ⟨w.heap.size, 8, none⟩ = some (.slice m.a8 m.n8 m.c8) := r0.cell (i := 8) (by omega)
    have b9 : w0.cell? ⟨w.heap.size, 9, none⟩ = some (.slice m.a9 m.n9 m.c9) := r0.cell (i := 9) (by omega)
    have b10 : w0.cell? ⟨w.heap.size, 10, none⟩ = some (.slice m.a10 m.n10 m.c10) := r0.cell (i := 10) (by omega)
    have b11 : w0.cell? ⟨w.heap.size, 11, none⟩ = some (.slice m.a11 m.n11 m.c11) := r0.cell (i := 11) (by omega)
    have HS0 : Hid (wb.heap.size ≤ w0.heap.size) := hs0
    clear rb hL1 B0 hz hs0 a0 a1 a2 a3 a4 a5 a6 a7 a8 a9 a10 a11
    go_wp2_with fail
    refine (mastersFit33 m w.heap.size w0 (by have := HZ.out; have := HS0.out; omega) hL2).mono ?_
    rintro e w1 ⟨⟨r, rfl, hF⟩, B1⟩
    have hz := HZ.out
    have hs0 := HS0.out
    have O1 : Only [] w w1 := O0.trans (Only.of_below B1)
    cases r with
    | false =>
      clear hz hs0
      go_wp2
      go_ret
      exact ⟨rfl, O1⟩
    | true =>
      obtain ⟨hSm, hWf⟩ := hF rfl
      have r1 := r0.below B1 (by omega)
      have hL3 : Laid w1 w.heap.size m := hL2.keep (B1.mono (by omega))
      have hs1 := B1.size
      have c0 : w1.cell? ⟨w.heap.size, 0, none⟩ = some (.slice m.a0 m.n0 m.c0) := r1.cell (i := 0) (by omega)
      have c1 : w1.cell? ⟨w.heap.size, 1, none⟩ = some (.slice m.a1 m.n1 m.c1) := r1.cell (i := 1) (by omega)
      have c2 : w1.cell? ⟨w.heap.size, 2, none⟩ = some (.slice m.a2 m.n2 m.c2) := r1.cell (i := 2) (by omega)
      have c3 : w1.cell? ⟨w.heap.size, 3, none⟩ = some (.slice m.a3 m.n3 m.c3) := r1.cell (i := 3) (by omega)
      have c4 : w1.cell? ⟨w.heap.size, 4, none⟩ = some (.slice m.a4 m.n4 m.c4) := r1.cell (i := 4) (by omega)
      have c5 : w1.cell? ⟨w.heap.size, 5, none⟩ = some (.slice m.a5 m.n5 m.c5) := r1.cell (i := 5) (by omega)
      have c6 : w1.cell? ⟨w.heap.size, 6, none⟩ = some (.slice m.a6 m.n6 m.c6) := r1.cell (i := 6) (by omega)
      have c7 : w1.cell? ⟨w.heap.size, 7, none⟩ = some (.int .i64 m.k) := r1.cell (i := 7) (by omega)
      have c8 : w1.cell? ⟨w.heap.size, 8, none⟩ = some (.slice m.a8 m.n8 m.c8) := r1.cell (i := 8) (by omega)
      have c9 : w1.cell? ⟨w.heap.size, 9, none⟩ = some (.slice m.a9 m.n9 m.c9) := r1.cell (i := 9) (by omega)
      have c10 : w1.cell? ⟨w.heap.size, 10, none⟩ = some (.slice m.a10 m.n10 m.c10) := r1.cell (i := 10) (by omega)
      have c11 : w1.cell? ⟨w.heap.size, 11, none⟩ = some (.slice m.a11 m.n11 m.c11) := r1.cell (i := 11) (by omega)
      have HS1 : Hid (w.heap.size + 1 ≤ w1.heap.size) := by have : w.heap.size + 1 ≤ w1.heap.size := by omega
                                                            exact this
      clear r0 hL2 B1 hz hs0 hs1 O0 b0 b1 b2 b3 b4 b5 b6 b7 b8 b9 b10 b11
      go_wp2_with fail
      refine (cloneMasters34 m w.heap.size w1 (by have := HS1.out; omega) hL3 hSm).mono ?_
      rintro e w2 ⟨m', rfl, hlk, hcap, hnew, hL4, O2⟩
      have r2 := r1.keep O2 (by simp)
      have hW' := hlk.wf hWf
      have hS' := hlk.small hSm
      have hs1 := HS1.out
      have d0 : w2.cell? ⟨w.heap.size, 0, none⟩ = some (.slice m.a0 m.n0 m.c0) := r2.cell (i := 0) (by omega)
      have d1 : w2.cell? ⟨w.heap.size, 1, none⟩ = some (.slice m.a1 m.n1 m.c1) := r2.cell (i := 1) (by omega)
      have d2 : w2.cell? ⟨w.heap.size, 2, none⟩ = some (.slice m.a2 m.n2 m.c2) := r2.cell (i := 2) (by omega)
      have d3 : w2.cell? ⟨w.heap.size, 3, none⟩ = some (.slice m.a3 m.n3 m.c3) := r2.cell (i := 3) (by omega)
      have d4 : w2.cell? ⟨w.heap.size, 4, none⟩ = some (.slice m.a4 m.n4 m.c4) := r2.cell (i := 4) (by omega)
      have d5 : w2.cell? ⟨w.heap.size, 5, none⟩ = some (.slice m.a5 m.n5 m.c5) := r2.cell (i := 5) (by omega)
      have d6 : w2.cell? ⟨w.heap.size, 6, none⟩ = some (.slice m.a6 m.n6 m.c6) := r2.cell (i := 6) (by omega)
      have d7 : w2.cell? ⟨w.heap.size, 7, none⟩ = some (.int .i64 m.k) := r2.cell (i := 7) (by omega)
      have d8 : w2.cell? ⟨w.heap.size, 8, none⟩ = some (.slice m.a8 m.n8 m.c8) := r2.cell (i := 8) (by omega)
      have d9 : w2.cell? ⟨w.heap.size, 9, none⟩ = some (.slice m.a9 m.n9 m.c9) := r2.cell (i := 9) (by omega)
      have d10 : w2.cell? ⟨w.heap.size, 10, none⟩ = some (.slice m.a10 m.n10 m.c10) := r2.cell (i := 10) (by omega)
      have d11 : w2.cell? ⟨w.heap.size, 11, none⟩ = some (.slice m.a11 m.n11 m.c11) := r2.cell (i := 11) (by omega)
      have fz := r2.frozen
      obtain ⟨w3, hw3⟩ : ∃ w3, w3 = setN w2 w.heap.size 0 (acell m') 12 := ⟨_, rfl⟩
      have O3 : Only [w.heap.size] w2 w3 := by rw [hw3]; exact Only.setN _ _ _ _ _
      have r3 : Row w3 w.heap.size 37 12 (acell m') := by rw [hw3]; exact setN_row m' r2
      have hL5 : Laid w3 w3.heap.size m' := hL4.up1 hnew O3 (by omega) O3.size
      have O4 : Only [] w w3 := (O1.trans O2).trans' O3 (fun i hi => by simp at hi; exact .inr (by omega))
      have HW3 : Hid (w3 = _) := hw3
      have HM : Hid (Laid w3 w3.heap.size m' ∧ WF m' ∧ Small m' ∧ (m'.n4 ≤ m'.c4 ∧ m'.n6 ≤ m'.c6)) := ⟨hL5, hW', hS', hcap⟩
      clear hw3 r1 r2 hL3 hL4 hL5 hnew hcap hW' hS' hlk hWf hSm O1 O2 O3 hs1 hF c0 c1 c2 c3 c4 c5 c6 c7 c8 c9 c10 c11
      simp only [agg]
      go_upto_region 6 with fail
      rw [show (((((((((((((w2.setCell ⟨w.heap.size, 0, none⟩ (.slice m'.a0 m'.n0 m'.c0)).setCell ⟨w.heap.size, 1, none⟩ (.slice m'.a1 m'.n1 m'.c1)).setCell ⟨w.heap.size, 2, none⟩ (.slice m'.a2 m'.n2 m'.c2)).setCell ⟨w.heap.size, 3, none⟩ (.slice m'.a3 m'.n3 m'.c3)).setCell ⟨w.heap.size, 4, none⟩ (.slice m'.a4 m'.n4 m'.c4)).setCell ⟨w.heap.size, 5, none⟩ (.slice m'.a5 m'.n5 m'.c5)).setCell ⟨w.heap.size, 6, none⟩ (.slice m'.a6 m'.n6 m'.c6)).setCell ⟨w.heap.size, 7, none⟩ (.int .i64 m'.k)).setCell ⟨w.heap.size, 8, none⟩ (.slice m'.a8 m'.n8 m'.c8)).setCell ⟨w.heap.size, 9, none⟩ (.slice m'.a9 m'.n9 m'.c9)).setCell ⟨w.heap.size, 10, none⟩ (.slice m'.a10 m'.n10 m'.c10)).setCell ⟨w.heap.size, 11, none⟩ (.slice m'.a11 m'.n11 m'.c11))) = w3 from HW3.out.symm]
      have g0 : w3.cell? ⟨w.heap.size, 0, none⟩ = some (.slice m'.a0 m'.n0 m'.c0) := r3.cell (i := 0) (by omega)
      have g1 : w3.cell? ⟨w.heap.size, 1, none⟩ = some (.slice m'.a1 m'.n1 m'.c1) := r3.cell (i := 1) (by omega)
      have g2 : w3.cell? ⟨w.heap.size, 2, none⟩ = some (.slice m'.a2 m'.n2 m'.c2) := r3.cell (i := 2) (by omega)
      have g3 : w3.cell? ⟨w.heap.size, 3, none⟩ = some (.slice m'.a3 m'.n3 m'.c3) := r3.cell (i := 3) (by omega)
      have g4 : w3.cell? ⟨w.heap.size, 4, none⟩ = some (.slice m'.a4 m'.n4 m'.c4) := r3.cell (i := 4) (by omega)
      have g5 : w3.cell? ⟨w.heap.size, 5, none⟩ = some (.slice m'.a5 m'.n5 m'.c5) := r3.cell (i := 5) (by omega)
      have g6 : w3.cell? ⟨w.heap.size, 6, none⟩ = some (.slice m'.a6 m'.n6 m'.c6) := r3.cell (i := 6) (by omega)
      have g7 : w3.cell? ⟨w.heap.size, 7, none⟩ = some (.int .i64 m'.k) := r3.cell (i := 7) (by omega)
      have g8 : w3.cell? ⟨w.heap.size, 8, none⟩ = some (.slice m'.a8 m'.n8 m'.c8) := r3.cell (i := 8) (by omega)
      have g9 : w3.cell? ⟨w.heap.size, 9, none⟩ = some (.slice m'.a9 m'.n9 m'.c9) := r3.cell (i := 9) (by omega)
      have g10 : w3.cell? ⟨w.heap.size, 10, none⟩ = some (.slice m'.a10 m'.n10 m'.c10) := r3.cell (i := 10) (by omega)
      have g11 : w3.cell? ⟨w.heap.size, 11, none⟩ = some (.slice m'.a11 m'.n11 m'.c11) := r3.cell (i := 11) (by omega)
      clear fz HW3 d0 d1 d2 d3 d4 d5 d6 d7 d8 d9 d10 d11
      have C38 := zzAfter38 m' x1 x2 x3 x4 flo fhi tlo thi w3 HM.out.1 HM.out.2.1 HM.out.2.2.1 HM.out.2.2.2
      go_wp2_with fail
      refine C38.mono ?_
      rintro e w4 ⟨rfl, B4⟩
      have hb : w.heap.size < w3.heap.size := r3.lt
      have r4 := r3.below B4 hb
      have hL6 : Laid w4 w4.heap.size m' := by
        exact laid_grow HM.out.1 B4
      have O5 : Only [] w w4 := O4.trans (Only.of_below B4)
      have k0 : w4.cell? ⟨w.heap.size, 0, none⟩ = some (.slice m'.a0 m'.n0 m'.c0) := r4.cell (i := 0) (by omega)
      have k1 : w4.cell? ⟨w.heap.size, 1, none⟩ = some (.slice m'.a1 m'.n1 m'.c1) := r4.cell (i := 1) (by omega)
      have k2 : w4.cell? ⟨w.heap.size, 2, none⟩ = some (.slice m'.a2 m'.n2 m'.c2) := r4.cell (i := 2) (by omega)
      have k3 : w4.cell? ⟨w.heap.size, 3, none⟩ = some (.slice m'.a3 m'.n3 m'.c3) := r4.cell (i := 3) (by omega)
      have k4 : w4.cell? ⟨w.heap.size, 4, none⟩ = some (.slice m'.a4 m'.n4 m'.c4) := r4.cell (i := 4) (by omega)
      have k5 : w4.cell? ⟨w.heap.size, 5, none⟩ = some (.slice m'.a5 m'.n5 m'.c5) := r4.cell (i := 5) (by omega)
      have k6 : w4.cell? ⟨w.heap.size, 6, none⟩ = some (.slice m'.a6 m'.n6 m'.c6) := r4.cell (i := 6) (by omega)
      have k7 : w4.cell? ⟨w.heap.size, 7, none⟩ = some (.int .i64 m'.k) := r4.cell (i := 7) (by omega)
      have k8 : w4.cell? ⟨w.heap.size, 8, none⟩ = some (.slice m'.a8 m'.n8 m'.c8) := r4.cell (i := 8) (by omega)
      have k9 : w4.cell? ⟨w.heap.size, 9, none⟩ = some (.slice m'.a9 m'.n9 m'.c9) := r4.cell (i := 9) (by omega)
      have k10 : w4.cell? ⟨w.heap.size, 10, none⟩ = some (.slice m'.a10 m'.n10 m'.c10) := r4.cell (i := 10) (by omega)
      have k11 : w4.cell? ⟨w.heap.size, 11, none⟩ = some (.slice m'.a11 m'.n11 m'.c11) := r4.cell (i := 11) (by omega)
      clear C38 r3 B4 hb g0 g1 g2 g3 g4 g5 g6 g7 g8 g9 g10 g11
      have C35 := zzLayer35 m' flo fhi tlo thi w4 hL6 HM.out.2.1 HM.out.2.2.1 HM.out.2.2.2
      go_wp2_with fail
      refine C35.mono ?_
      rintro e w5 ⟨rfl, B5⟩
      have O6 : Only [] w w5 := O5.trans (Only.of_below B5)
      clear C35 r4 B5 hL6 k0 k1 k2 k3 k4 k5 k6 k7 k8 k9 k10 k11
      go_wp2
      go_ret
      exact ⟨by simp, O6⟩
end Go.Proofs.Qxb6602564a
