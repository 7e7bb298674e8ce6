/-
  THE SMALL FUNCTIONS OF THE LAW BY LEVELS: zzBytes, mayGive, mayTake.
-/
import Derived.Test.Qxb6602564aLyDefs
import Derived.Test.Qxb6602564aLyMast
import Derived.Deep.CutRange
import Derived.BigQuiet
namespace Go.Proofs.Qxb6602564a
open Go.RowKit
set_option linter.unusedVariables false
set_option maxRecDepth 100000 in
set_option maxHeartbeats 2000000 in
theorem zzBytes32 (m : M) (x0 x1 x2 x3 : Int) (B : Nat) (w : World) (hB : B ≤ w.heap.size) (hL : Laid w B m) :
    Calls Try.prog 32 #[.agg #[.slice m.a0 m.n0 m.c0, .slice m.a1 m.n1 m.c1, .slice m.a2 m.n2 m.c2, .slice m.a3 m.n3 m.c3, .slice m.a4 m.n4 m.c4, .slice m.a5 m.n5 m.c5, .slice m.a6 m.n6 m.c6, .int .i64 m.k, .slice m.a8 m.n8 m.c8, .slice m.a9 m.n9 m.c9, .slice m.a10 m.n10 m.c10, .slice m.a11 m.n11 m.c11], .int .i64 x0, .int .i64 x1, .int .i64 x2, .int .i64 x3] w fun e w' => RetB e (fun _ => True) ∧ Below w.heap.size w w' := by
  have hb0 : Below w.heap.size w (w.alloc (.cells #[.slice m.a0 m.n0 m.c0, .slice m.a1 m.n1 m.c1, .slice m.a2 m.n2 m.c2, .slice m.a3 m.n3 m.c3, .slice m.a4 m.n4 m.c4, .slice m.a5 m.n5 m.c5, .slice m.a6 m.n6 m.c6, .int .i64 m.k, .slice m.a8 m.n8 m.c8, .slice m.a9 m.n9 m.c9, .slice m.a10 m.n10 m.c10, .slice m.a11 m.n11 m.c11] 37)) := (Below.refl _ _).alloc (Nat.le_refl _) _
  have h8 := (hL.keep (hb0.mono hB)).h8
  have zu := hL.zu
  have z0 := hL.z0
  have z1 := hL.z1
  have z2 := hL.z2
  have z3 := hL.z3
  have z4 := hL.z4
  have z5 := hL.z5
  have z6 := hL.z6
  have z8 := hL.z8
  have z9 := hL.z9
  have z10 := hL.z10
  have z11 := hL.z11
  clear hL
  go_enter Try.func32, Try.ntmps32
  go_wp2
  all_goals first | (go_ret; exact ⟨⟨_, rfl, trivial⟩, hb0⟩) | skip
  go_loop [11, 12] (fun t i => ∃ (k : Nat) (s : Int), k ≤ m.n8 ∧ i = .int .i64 k ∧ t = .int .i64 s ∧ 0 ≤ s ∧ s ≤ 1048576) (fun _ i => m.n8 - (intOf i).toNat)
  case atStart => exact ⟨0, _, by omega, rfl, rfl, by omega, by omega⟩
  case round =>
    obtain ⟨k, s, hk, rfl, rfl, hs0, hs1⟩ := hrel
    by_cases hlt : k < m.n8
    · obtain ⟨b, off, e, hbB, hc⟩ := h8 (by omega)
      have hix := run_atN (P := Try.prog) 35 34 m.a8 m.n8 m.c8 b off .i64 k Try.underlying35 Try.size34 e hlt
      have ck := hc k hlt
      have zk := zu k hlt
      clear hc e h8 zu
      go_wp2
      all_goals first | (go_ret; exact ⟨⟨_, rfl, trivial⟩, hb0⟩) | skip
      go_round
      case rel => exact ⟨k + 1, _, by omega, by go_num, rfl, by omega, by omega⟩
      case measure => simp [intOf]; omega
    · clear h8 zu
      go_wp2
      all_goals (go_ret; exact ⟨⟨_, rfl, trivial⟩, hb0⟩)

theorem row37 (m : M) (w : World) : Row (w.alloc (.cells #[.slice m.a0 m.n0 m.c0, .slice m.a1 m.n1 m.c1, .slice m.a2 m.n2 m.c2, .slice m.a3 m.n3 m.c3, .slice m.a4 m.n4 m.c4, .slice m.a5 m.n5 m.c5, .slice m.a6 m.n6 m.c6, .int .i64 m.k, .slice m.a8 m.n8 m.c8, .slice m.a9 m.n9 m.c9, .slice m.a10 m.n10 m.c10, .slice m.a11 m.n11 m.c11] 37)) w.heap.size 37 12 (acell m) := by
  refine (Row.made w #[.slice m.a0 m.n0 m.c0, .slice m.a1 m.n1 m.c1, .slice m.a2 m.n2 m.c2, .slice m.a3 m.n3 m.c3, .slice m.a4 m.n4 m.c4, .slice m.a5 m.n5 m.c5, .slice m.a6 m.n6 m.c6, .int .i64 m.k, .slice m.a8 m.n8 m.c8, .slice m.a9 m.n9 m.c9, .slice m.a10 m.n10 m.c10, .slice m.a11 m.n11 m.c11] 37).ext (fun i hi => ?_)
  have hi : i < 12 := hi
  obtain rfl | rfl | rfl | rfl | rfl | rfl | rfl | rfl | rfl | rfl | rfl | rfl : i = 0 ∨ i = 1 ∨ i = 2 ∨ i = 3 ∨ i = 4 ∨ i = 5 ∨ i = 6 ∨ i = 7 ∨ i = 8 ∨ i = 9 ∨ i = 10 ∨ i = 11 := by omega
  all_goals rfl
set_option maxHeartbeats 2000000 in
theorem mayGive53 (m : M) (u B : Nat) (w : World) (hB : B ≤ w.heap.size) (hL : Laid w B m) (hW : WF m) (hu : u < m.n1) :
    Calls Try.prog 53 #[.agg #[.slice m.a0 m.n0 m.c0, .slice m.a1 m.n1 m.c1, .slice m.a2 m.n2 m.c2, .slice m.a3 m.n3 m.c3, .slice m.a4 m.n4 m.c4, .slice m.a5 m.n5 m.c5, .slice m.a6 m.n6 m.c6, .int .i64 m.k, .slice m.a8 m.n8 m.c8, .slice m.a9 m.n9 m.c9, .slice m.a10 m.n10 m.c10, .slice m.a11 m.n11 m.c11], .int .i64 (u : Int)] w fun e w' => RetV (give m u) w e w' := by
  obtain ⟨wb, hwb⟩ : ∃ wb, wb = w.alloc (.cells #[.slice m.a0 m.n0 m.c0, .slice m.a1 m.n1 m.c1, .slice m.a2 m.n2 m.c2, .slice m.a3 m.n3 m.c3, .slice m.a4 m.n4 m.c4, .slice m.a5 m.n5 m.c5, .slice m.a6 m.n6 m.c6, .int .i64 m.k, .slice m.a8 m.n8 m.c8, .slice m.a9 m.n9 m.c9, .slice m.a10 m.n10 m.c10, .slice m.a11 m.n11 m.c11] 37) := ⟨_, rfl⟩
  have Ob : Only [] w wb := by rw [hwb]; exact Only.alloc _ _ _
  have rb : Row wb w.heap.size 37 12 (acell m) := by rw [hwb]; exact row37 m w
  have hL1 : Laid wb B m := hL.keep (Ob.below hB (by simp))
  have y3 : wb.cell? ⟨w.heap.size, 3, none⟩ = some (.slice m.a3 m.n3 m.c3) := rb.cell (i := 3) (by omega)
  have y10 : wb.cell? ⟨w.heap.size, 10, none⟩ = some (.slice m.a10 m.n10 m.c10) := rb.cell (i := 10) (by omega)
  have y2 : wb.cell? ⟨w.heap.size, 2, none⟩ = some (.slice m.a2 m.n2 m.c2) := rb.cell (i := 2) (by omega)
  have ur := hW.ur u hu
  obtain ⟨b3, o3, e3, _, k3⟩ := hL1.h3 (by have := hW.e3; omega)
  have i3 := run_atN (P := Try.prog) 26 3 m.a3 m.n3 m.c3 b3 o3 .i64 u Try.underlying26 Try.size3 e3 (by have := hW.e3; omega)
  have d3 := k3 u (by have := hW.e3; omega)
  obtain ⟨b2, o2, e2, _, k2⟩ := hL1.h2 (by have := hW.e2; omega)
  have i2 := run_atN (P := Try.prog) 34 21 m.a2 m.n2 m.c2 b2 o2 .i64 u Try.underlying34 Try.size21 e2 (by have := hW.e2; omega)
  have d2 := k2 u (by have := hW.e2; omega)
  obtain ⟨b1, o1, e1, _, k1⟩ := hL1.h10 (by omega)
  have i1 := run_at (P := Try.prog) 26 3 m.a10 m.n10 m.c10 b1 o1 .i32 (m.f2 u) Try.underlying26 Try.size3 e1 ur.1 ur.2.1
  have d1 := k1 (m.f2 u).toNat (by omega)
  have hb : decide (m.f3 u > m.f10 (m.f2 u).toNat) = give m u := rfl
  have HW : Hid (wb = _) := hwb
  clear hL hL1 hW rb e1 e2 e3 k1 k2 k3 ur hwb
  go_enter Try.func53, Try.ntmps53
  go_upto_region 1 with fail
  rw [← HW.out]
  go_quiet (fail)
  go_wp2
  go_ret
  exact ⟨rfl, Ob.trans (Only.drewN _ _ _)⟩
set_option maxHeartbeats 2000000 in
theorem mayTake54 (m : M) (u B : Nat) (w : World) (hB : B ≤ w.heap.size) (hL : Laid w B m) (hW : WF m) (hu : u < m.n1) :
    Calls Try.prog 54 #[.agg #[.slice m.a0 m.n0 m.c0, .slice m.a1 m.n1 m.c1, .slice m.a2 m.n2 m.c2, .slice m.a3 m.n3 m.c3, .slice m.a4 m.n4 m.c4, .slice m.a5 m.n5 m.c5, .slice m.a6 m.n6 m.c6, .int .i64 m.k, .slice m.a8 m.n8 m.c8, .slice m.a9 m.n9 m.c9, .slice m.a10 m.n10 m.c10, .slice m.a11 m.n11 m.c11], .int .i64 (u : Int)] w fun e w' => RetV (take m u) w e w' := by
  obtain ⟨wb, hwb⟩ : ∃ wb, wb = w.alloc (.cells #[.slice m.a0 m.n0 m.c0, .slice m.a1 m.n1 m.c1, .slice m.a2 m.n2 m.c2, .slice m.a3 m.n3 m.c3, .slice m.a4 m.n4 m.c4, .slice m.a5 m.n5 m.c5, .slice m.a6 m.n6 m.c6, .int .i64 m.k, .slice m.a8 m.n8 m.c8, .slice m.a9 m.n9 m.c9, .slice m.a10 m.n10 m.c10, .slice m.a11 m.n11 m.c11] 37) := ⟨_, rfl⟩
  have Ob : Only [] w wb := by rw [hwb]; exact Only.alloc _ _ _
  have rb : Row wb w.heap.size 37 12 (acell m) := by rw [hwb]; exact row37 m w
  have hL1 : Laid wb B m := hL.keep (Ob.below hB (by simp))
  have y3 : wb.cell? ⟨w.heap.size, 3, none⟩ = some (.slice m.a3 m.n3 m.c3) := rb.cell (i := 3) (by omega)
  have y10 : wb.cell? ⟨w.heap.size, 11, none⟩ = some (.slice m.a11 m.n11 m.c11) := rb.cell (i := 11) (by omega)
  have y2 : wb.cell? ⟨w.heap.size, 2, none⟩ = some (.slice m.a2 m.n2 m.c2) := rb.cell (i := 2) (by omega)
  have ur := hW.ur u hu
  obtain ⟨b3, o3, e3, _, k3⟩ := hL1.h3 (by have := hW.e3; omega)
  have i3 := run_atN (P := Try.prog) 26 3 m.a3 m.n3 m.c3 b3 o3 .i64 u Try.underlying26 Try.size3 e3 (by have := hW.e3; omega)
  have d3 := k3 u (by have := hW.e3; omega)
  obtain ⟨b2, o2, e2, _, k2⟩ := hL1.h2 (by have := hW.e2; omega)
  have i2 := run_atN (P := Try.prog) 34 21 m.a2 m.n2 m.c2 b2 o2 .i64 u Try.underlying34 Try.size21 e2 (by have := hW.e2; omega)
  have d2 := k2 u (by have := hW.e2; omega)
  obtain ⟨b1, o1, e1, _, k1⟩ := hL1.h11 (by omega)
  have i1 := run_at (P := Try.prog) 26 3 m.a11 m.n11 m.c11 b1 o1 .i32 (m.f2 u) Try.underlying26 Try.size3 e1 ur.1 ur.2.2
  have d1 := k1 (m.f2 u).toNat (by omega)
  have hb : decide (m.f3 u < m.f11 (m.f2 u).toNat) = take m u := rfl
  have HW : Hid (wb = _) := hwb
  clear hL hL1 hW rb e1 e2 e3 k1 k2 k3 ur hwb
  go_enter Try.func54, Try.ntmps54
  go_upto_region 1 with fail
  rw [← HW.out]
  go_quiet (fail)
  go_wp2
  go_ret
  exact ⟨rfl, Ob.trans (Only.drewN _ _ _)⟩
end Go.Proofs.Qxb6602564a
