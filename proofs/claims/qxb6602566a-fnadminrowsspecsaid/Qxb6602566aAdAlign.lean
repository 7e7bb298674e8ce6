/-
  THE GUARDS OF THE adminRows LAW: zzStatsAligned.
-/
import Derived.Test.Qxb6602566aAdSmall
namespace Go.Proofs.Qxb6602566a
open Go.RowKit
set_option linter.unusedVariables false

structure Aligned (m : A) : Prop where
  e4 : m.n4 = m.n3
  e5 : m.n5 = m.n3
  e6 : m.n6 = m.n3
  e7 : m.n7 = m.n3
  e8 : m.n8 = m.n3
  i7 : ∀ i, i < m.n3 → m.m7 i = m.m6 i
  i8 : ∀ i, i < m.n3 → m.m8 i = m.m6 i
def AlignedP (m : A) (r : Bool) : Prop := r = true → Aligned m
theorem al_no {m : A} {w : World} : RetB (.returned (.bool false)) (AlignedP m) ∧ w = w := ⟨⟨_, rfl, fun h => by cases h⟩, rfl⟩
def Same (m : A) (k : Nat) : Prop := ∀ i, i < k → m.m7 i = m.m6 i ∧ m.m8 i = m.m6 i

set_option maxRecDepth 100000 in
set_option maxHeartbeats 4000000 in
theorem aligned11 (m : A) (B : Nat) (w : World) (hL : Laid w B m) (hS : Small m) :
    Calls Try.prog 11 #[.slice m.a3 m.n3 m.c3, .slice m.a4 m.n4 m.c4, .slice m.a5 m.n5 m.c5, .slice m.a6 m.n6 m.c6, .slice m.a7 m.n7 m.c7, .slice m.a8 m.n8 m.c8] w fun e w' => RetB e (AlignedP m) ∧ w' = w := by
  obtain ⟨q3, q4, q5, q6, q7, q8, qu⟩ := hS
  by_cases hE : m.n4 = m.n3 ∧ m.n5 = m.n3 ∧ m.n6 = m.n3 ∧ m.n7 = m.n3 ∧ m.n8 = m.n3
  · have t4 : ((m.n4 : Int) != (m.n3 : Int)) = false := by simp; omega
    have t5 : ((m.n5 : Int) != (m.n3 : Int)) = false := by simp; omega
    have t6 : ((m.n6 : Int) != (m.n3 : Int)) = false := by simp; omega
    have t7 : ((m.n7 : Int) != (m.n3 : Int)) = false := by simp; omega
    have t8 : ((m.n8 : Int) != (m.n3 : Int)) = false := by simp; omega
    have HE : Hid (m.n4 = m.n3 ∧ m.n5 = m.n3 ∧ m.n6 = m.n3 ∧ m.n7 = m.n3 ∧ m.n8 = m.n3) := hE
    clear hE
    go_enter Try.func11, Try.ntmps11
    go_wp2
    go_loop [14] (fun i => ∃ (k : Nat), k ≤ m.n3 ∧ i = .int .i64 k ∧ Same m k) (fun i => m.n3 - (intOf i).toNat)
    case atStart => exact ⟨0, by omega, rfl, fun i hi => by omega⟩
    case round =>
      obtain ⟨k, hk, rfl, hX⟩ := hrel
      by_cases hlt : k < m.n3
      · obtain ⟨b6, o6, e6, _, c6⟩ := hL.h6 (by have := HE.out; omega)
        have i6 := run_at1 (P := Try.prog) 25 22 m.a6 m.n6 m.c6 b6 o6 .i64 k Try.underlying25 Try.size22 e6 (by have := HE.out; omega)
        replace c6 := c6 k (by have := HE.out; omega)
        obtain ⟨b7, o7, e7, _, c7⟩ := hL.h7 (by have := HE.out; omega)
        have i7 := run_at1 (P := Try.prog) 26 23 m.a7 m.n7 m.c7 b7 o7 .i64 k Try.underlying26 Try.size23 e7 (by have := HE.out; omega)
        replace c7 := c7 k (by have := HE.out; omega)
        obtain ⟨b8, o8, e8, _, c8⟩ := hL.h8 (by have := HE.out; omega)
        have i8 := run_at1 (P := Try.prog) 27 42 m.a8 m.n8 m.c8 b8 o8 .i64 k Try.underlying27 Try.size42 e8 (by have := HE.out; omega)
        replace c8 := c8 k (by have := HE.out; omega)
        clear hL e6 e7 e8
        by_cases hm : m.m7 k = m.m6 k ∧ m.m8 k = m.m6 k
        · have u7 : ((m.m7 k : Int) != (m.m6 k : Int)) = false := by simp; omega
          have u8 : ((m.m8 k : Int) != (m.m6 k : Int)) = false := by simp; omega
          have HS : Hid (Same m (k + 1)) := fun i hi => by
            by_cases e : i = k
            · subst e; exact hm
            · exact hX i (by omega)
          clear hm hX
          go_wp2
          go_round
          case rel => exact ⟨k + 1, by omega, by go_num, HS.out⟩
          case measure => simp [intOf]; omega
        · clear hX
          go_wp2
          all_goals first | (go_ret; exact al_no) | (exfalso; simp_all; omega)
      · have fin : Aligned m := by
          obtain ⟨e4, e5, e6, e7, e8⟩ := HE.out
          exact ⟨e4, e5, e6, e7, e8, fun i hi => (hX i (by omega)).1, fun i hi => (hX i (by omega)).2⟩
        clear hX hL
        go_wp2
        go_ret
        exact ⟨⟨_, rfl, fun _ => fin⟩, rfl⟩
  · clear hL
    go_enter Try.func11, Try.ntmps11
    go_wp2
    all_goals first | (go_ret; exact al_no) | (exfalso; omega)
end Go.Proofs.Qxb6602566a
