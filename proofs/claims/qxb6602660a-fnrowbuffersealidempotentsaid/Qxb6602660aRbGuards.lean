/-
  THE GUARDS OF THE seal LAW.
-/
import Derived.Test.Qxb6602660aRb
namespace Go.Proofs.Qxb6602660a
open Go.RowKit
set_option linter.unusedVariables false

structure Fit (p : Ch) (tn zn : Nat) : Prop where
  n : p.n ≤ 1048576
  t : tn ≤ 1048576
  z : zn ≤ 1048576
  y : ∀ i, i < p.n → (p.T i).size ≤ 1048576
  x : ∀ i, i < p.n → p.sn i ≤ 1048576
def FitP (p : Ch) (tn zn : Nat) (r : Bool) : Prop := r = true → Fit p tn zn
theorem fit_no {p : Ch} {tn zn : Nat} {w : World} : RetB (.returned (.bool false)) (FitP p tn zn) ∧ w = w := ⟨⟨_, rfl, fun h => by cases h⟩, rfl⟩
set_option maxRecDepth 100000 in
set_option maxHeartbeats 4000000 in
theorem zzBytes22 (p : Ch) (wd rows ll : Int) (ta za : Option Addr) (tn tc zn zc : Nat) (B : Nat) (w : World) (hL : LaidC w B p) (ht : (tn : Int) ≤ 9223372036854775807) (hz : (zn : Int) ≤ 9223372036854775807) :
    Calls Try.prog 22 #[.int .i64 wd, .slice p.a p.n p.c, .slice ta tn tc, .slice za zn zc, .int .i64 rows, .int .i64 ll] w fun e w' => RetB e (FitP p tn zn) ∧ w' = w := by
  have z := hL.z
  go_enter Try.func22, Try.ntmps22
  go_wp2
  all_goals first | (go_ret; exact fit_no) | skip
  go_loop [13, 14] (fun t i => ∃ (k : Nat) (s : Int), k ≤ p.n ∧ i = .int .i64 k ∧ t = .int .i64 s ∧ 0 ≤ s ∧ s ≤ 1048576 ∧ ∀ i, i < k → (p.T i).size ≤ 1048576 ∧ p.sn i ≤ 1048576) (fun _ i => p.n - (intOf i).toNat)
  case atStart => exact ⟨0, _, by omega, rfl, rfl, by omega, by omega, fun i hi => by omega⟩
  case round =>
    obtain ⟨k, s, hk, rfl, rfl, hs0, hs1, hI⟩ := hrel
    have HI : Hid (∀ i, i < k → (p.T i).size ≤ 1048576 ∧ p.sn i ≤ 1048576) := hI
    clear hI
    by_cases hlt : k < p.n
    · obtain ⟨b, o, e, c0, c1⟩ := hL.at hlt
      have hix := run_at (P := Try.prog) 25 43 p.a p.n p.c b o 2 .i64 k Try.underlying25 Try.size43 e hlt
      have zk := hL.y k hlt
      have xk := hL.x k hlt
      clear hL e
      go_wp2
      all_goals first | (go_ret; exact fit_no) | skip
      go_round
      case rel => exact ⟨k + 1, _, by omega, by go_num, rfl, by omega, by omega, fun i hi => by
        by_cases e : i = k
        · subst e; omega
        · exact HI.out i (by omega)⟩
      case measure => simp [intOf]; omega
    · clear hL
      go_wp2
      all_goals first | (go_ret; exact fit_no) | skip
      all_goals (go_ret; exact ⟨⟨_, rfl, fun _ => ⟨by omega, by omega, by omega, fun i hi => (HI.out i (by omega)).1, fun i hi => (HI.out i (by omega)).2⟩⟩, rfl⟩)
def FewP (p : Ch) (w : World) (e : Ending) (w' : World) : Prop := RetB e (fun r => r = true → p.n ≤ 65536) ∧ Only [] w w'
set_option maxRecDepth 100000 in
set_option maxHeartbeats 4000000 in
theorem fits12 (p : Ch) (ta za : Option Addr) (tn tc zn zc : Nat) (B : Nat) (w : World) (hL : LaidC w B p) (hF : Fit p tn zn) :
    Calls Try.prog 12 #[.slice p.a p.n p.c, .slice ta tn tc, .slice za zn zc] w fun e w' => FewP p w e w' := by
  obtain ⟨f1, f2, f3, f4, f5⟩ := hF
  have t2 : ¬ 1048576 < (tn : Int) := by omega
  have t3 : ¬ 1048576 < (zn : Int) := by omega
  by_cases hn : p.n ≤ 65536
  · have t1 : ¬ 65536 < (p.n : Int) := by omega
    go_enter Try.func12, Try.ntmps12
    go_wp2
    go_loopw [7, 8] (fun t i wr => ∃ (k : Nat) (s : Int), k ≤ p.n ∧ i = .int .i64 k ∧ t = .int .i64 s ∧ 0 ≤ s ∧ s ≤ 8388608 ∧ Only [] w wr) (fun _ i _ => p.n - (intOf i).toNat)
    case atStart => exact ⟨0, _, by omega, rfl, rfl, by omega, by omega, Only.refl _ _⟩
    case round =>
      obtain ⟨k, s, hk, rfl, rfl, hs0, hs1, O⟩ := hrel
      by_cases hlt : k < p.n
      · obtain ⟨b, o, e, c0, c1⟩ := (hL.up O (Nat.le_refl B)).at hlt
        have hix := run_at (P := Try.prog) 25 43 p.a p.n p.c b o 2 .i64 k Try.underlying25 Try.size43 e hlt
        have zk := f4 k hlt
        have xk := f5 k hlt
        clear hL e f4 f5
        go_wp2_with fail
        go_quiet (fail)
        go_wp2
        · go_ret
          exact ⟨⟨_, rfl, fun h => by cases h⟩, O.trans (Only.drewN _ _ _)⟩
        · go_roundw
          case rel => exact ⟨k + 1, _, by omega, by go_num, rfl, by omega, by omega, O.trans (Only.drewN _ _ _)⟩
          case measure => simp [intOf]; omega
      · clear hL f4 f5
        go_wp2
        all_goals (go_ret; exact ⟨⟨_, rfl, fun _ => hn⟩, O⟩)
  · have t1 : 65536 < (p.n : Int) := by omega
    clear hL f4 f5
    go_enter Try.func12, Try.ntmps12
    go_wp2
    go_ret
    exact ⟨⟨_, rfl, fun h => by cases h⟩, Only.refl _ _⟩
end Go.Proofs.Qxb6602660a
