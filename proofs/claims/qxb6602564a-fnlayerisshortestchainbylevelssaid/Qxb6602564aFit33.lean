/-
  THE GUARD mastersFit.
-/
import Derived.Test.Qxb6602564aFit48
namespace Go.Proofs.Qxb6602564a
open Go.RowKit
set_option linter.unusedVariables false
def agg (m : M) : Value := .agg #[.slice m.a0 m.n0 m.c0, .slice m.a1 m.n1 m.c1, .slice m.a2 m.n2 m.c2, .slice m.a3 m.n3 m.c3, .slice m.a4 m.n4 m.c4, .slice m.a5 m.n5 m.c5, .slice m.a6 m.n6 m.c6, .int .i64 m.k, .slice m.a8 m.n8 m.c8, .slice m.a9 m.n9 m.c9, .slice m.a10 m.n10 m.c10, .slice m.a11 m.n11 m.c11]
def FitP (m : M) (r : Bool) : Prop := r = true → Small m ∧ WF m
theorem fit_no {m : M} {w w' : World} (h : Below w.heap.size w w') : RetB (.returned (.bool false)) (FitP m) ∧ Below w.heap.size w w' := ⟨⟨_, rfl, fun h => by cases h⟩, h⟩
set_option maxRecDepth 100000 in
set_option maxHeartbeats 4000000 in
theorem mastersFit33 (m : M) (B : Nat) (w : World) (hB : B ≤ w.heap.size) (hL : Laid w B m) :
    Calls Try.prog 33 #[.agg #[.slice m.a0 m.n0 m.c0, .slice m.a1 m.n1 m.c1, .slice m.a2 m.n2 m.c2, .slice m.a3 m.n3 m.c3, .slice m.a4 m.n4 m.c4, .slice m.a5 m.n5 m.c5, .slice m.a6 m.n6 m.c6, .int .i64 m.k, .slice m.a8 m.n8 m.c8, .slice m.a9 m.n9 m.c9, .slice m.a10 m.n10 m.c10, .slice m.a11 m.n11 m.c11]] w fun e w' => RetB e (FitP m) ∧ Below w.heap.size w w' := by
  have hb0 : Below w.heap.size w (w.alloc (.cells #[.slice m.a0 m.n0 m.c0, .slice m.a1 m.n1 m.c1, .slice m.a2 m.n2 m.c2, .slice m.a3 m.n3 m.c3, .slice m.a4 m.n4 m.c4, .slice m.a5 m.n5 m.c5, .slice m.a6 m.n6 m.c6, .int .i64 m.k, .slice m.a8 m.n8 m.c8, .slice m.a9 m.n9 m.c9, .slice m.a10 m.n10 m.c10, .slice m.a11 m.n11 m.c11] 37)) := (Below.refl _ _).alloc (Nat.le_refl _) _
  have hL1 := hL.keep (hb0.mono hB)
  have z0 := hL.z0
  have z1 := hL.z1
  have z2 := hL.z2
  have z3 := hL.z3
  have z4 := hL.z4
  have z5 := hL.z5
  have z6 := hL.z6
  have z8 := hL.z8
  have z9 := hL.z9
  have z10 := hL.z10
  have z11 := hL.z11
  clear hL
  by_cases h0 : m.n0 ≤ 262144
  case neg =>
    have t0 : 262144 < (m.n0 : Int) := by omega
    clear hL1
    go_enter Try.func33, Try.ntmps33
    go_wp2
    go_ret
    exact fit_no hb0
  case pos =>
  have t0 : ¬ 262144 < (m.n0 : Int) := by omega
  by_cases h1 : m.n1 ≤ 262144
  case neg =>
    have t1 : 262144 < (m.n1 : Int) := by omega
    clear hL1
    go_enter Try.func33, Try.ntmps33
    go_wp2
    go_ret
    exact fit_no hb0
  case pos =>
  have t1 : ¬ 262144 < (m.n1 : Int) := by omega
  by_cases h2 : m.n2 ≤ 262144
  case neg =>
    have t2 : 262144 < (m.n2 : Int) := by omega
    clear hL1
    go_enter Try.func33, Try.ntmps33
    go_wp2
    go_ret
    exact fit_no hb0
  case pos =>
  have t2 : ¬ 262144 < (m.n2 : Int) := by omega
  by_cases h3 : m.n3 ≤ 131072
  case neg =>
    have t3 : 131072 < (m.n3 : Int) := by omega
    clear hL1
    go_enter Try.func33, Try.ntmps33
    go_wp2
    go_ret
    exact fit_no hb0
  case pos =>
  have t3 : ¬ 131072 < (m.n3 : Int) := by omega
  by_cases h4 : m.n4 ≤ 262144
  case neg =>
    have t4 : 262144 < (m.n4 : Int) := by omega
    clear hL1
    go_enter Try.func33, Try.ntmps33
    go_wp2
    go_ret
    exact fit_no hb0
  case pos =>
  have t4 : ¬ 262144 < (m.n4 : Int) := by omega
  by_cases h5 : m.n5 ≤ 262144
  case neg =>
    have t5 : 262144 < (m.n5 : Int) := by omega
    clear hL1
    go_enter Try.func33, Try.ntmps33
    go_wp2
    go_ret
    exact fit_no hb0
  case pos =>
  have t5 : ¬ 262144 < (m.n5 : Int) := by omega
  by_cases h6 : m.n6 ≤ 262144
  case neg =>
    have t6 : 262144 < (m.n6 : Int) := by omega
    clear hL1
    go_enter Try.func33, Try.ntmps33
    go_wp2
    go_ret
    exact fit_no hb0
  case pos =>
  have t6 : ¬ 262144 < (m.n6 : Int) := by omega
  by_cases h8 : m.n8 ≤ 65536
  case neg =>
    have t8 : 65536 < (m.n8 : Int) := by omega
    clear hL1
    go_enter Try.func33, Try.ntmps33
    go_wp2
    go_ret
    exact fit_no hb0
  case pos =>
  have t8 : ¬ 65536 < (m.n8 : Int) := by omega
  by_cases h9 : m.n9 ≤ 131072
  case neg =>
    have t9 : 131072 < (m.n9 : Int) := by omega
    clear hL1
    go_enter Try.func33, Try.ntmps33
    go_wp2
    go_ret
    exact fit_no hb0
  case pos =>
  have t9 : ¬ 131072 < (m.n9 : Int) := by omega
  by_cases h10 : m.n10 ≤ 131072
  case neg =>
    have t10 : 131072 < (m.n10 : Int) := by omega
    clear hL1
    go_enter Try.func33, Try.ntmps33
    go_wp2
    go_ret
    exact fit_no hb0
  case pos =>
  have t10 : ¬ 131072 < (m.n10 : Int) := by omega
  by_cases h11 : m.n11 ≤ 131072
  case neg =>
    have t11 : 131072 < (m.n11 : Int) := by omega
    clear hL1
    go_enter Try.func33, Try.ntmps33
    go_wp2
    go_ret
    exact fit_no hb0
  case pos =>
  have t11 : ¬ 131072 < (m.n11 : Int) := by omega
  go_enter Try.func33, Try.ntmps33
  go_wp2
  all_goals first | (go_ret; exact fit_no hb0) | skip
  go_loop [3, 4] (fun t i => ∃ (k : Nat) (s : Int), k ≤ m.n8 ∧ i = .int .i64 k ∧ t = .int .i64 s ∧ 4 * (sumU m k : Int) ≤ s ∧ s ≤ 1048576) (fun _ i => m.n8 - (intOf i).toNat)
  case atStart => exact ⟨0, _, by omega, rfl, rfl, by simp [sumU]; omega, by omega⟩
  case round =>
    obtain ⟨k, s, hk, rfl, rfl, hs0, hs1⟩ := hrel
    have hs00 : (0 : Int) ≤ s := by omega
    by_cases hlt : k < m.n8
    · obtain ⟨b, off, e, hbB, hc⟩ := hL1.h8 (by omega)
      have hix := run_atN (P := Try.prog) 35 34 m.a8 m.n8 m.c8 b off .i64 k Try.underlying35 Try.size34 e hlt
      have ck := hc k hlt
      have zk := hL1.zu k hlt
      have hsum : Hid ((sumU m (k + 1) : Int) = sumU m k + m.un k) := by show ((sumU m k + m.un k : Nat) : Int) = _; omega
      clear hc e hL1
      go_wp2
      all_goals first | (go_ret; exact fit_no hb0) | skip
      go_round
      case rel => exact ⟨k + 1, _, by omega, by go_num, rfl, by have := hsum.out; omega, by omega⟩
      case measure => simp [intOf]; omega
    · have ek : m.n8 = k := by omega
      have hS : Small m := ⟨h0, h1, h2, by omega, h4, h5, h6, by omega, by omega, by omega, by omega, by rw [ek]; omega⟩
      clear ek
      go_wp2_with fail
      refine (wellFormed48 m B _ (by simp; omega) hL1 hS).mono ?_
      rintro e w' ⟨⟨r, rfl, hW⟩, hb⟩
      have FIN : Hid (RetB (.returned (.bool r)) (FitP m) ∧ Below w.heap.size w w') := ⟨⟨r, rfl, fun h => ⟨hS, hW h⟩⟩, hb0.trans (hb.mono (by simp))⟩
      clear hW hb hL1
      go_wp2
      go_ret
      exact FIN.out
end Go.Proofs.Qxb6602564a
