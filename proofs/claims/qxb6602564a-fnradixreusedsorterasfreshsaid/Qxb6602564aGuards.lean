/-
  THE GUARDS OF THE RADIX LAW: each only reads, and returns some bool; a 'true' says what the law goes on with.
-/
import Derived.Test.Qxb6602564aRows
import Derived.Test.Qxb6602564aMem
namespace Go.Proofs.Qxb6602564a
open Go.RowKit
set_option linter.unusedVariables false

theorem zzBytes27 (a0 a1 a2 a3 a4 a5 : Option Addr) (l0 c0 l1 c1 l2 c2 l3 c3 l4 c4 l5 c5 : Nat) (w : World)
    (h0 : (l0 : Int) ≤ 9223372036854775807) (h1 : (l1 : Int) ≤ 9223372036854775807) (h2 : (l2 : Int) ≤ 9223372036854775807) (h3 : (l3 : Int) ≤ 9223372036854775807) (h4 : (l4 : Int) ≤ 9223372036854775807) (h5 : (l5 : Int) ≤ 9223372036854775807) :
    Calls Try.prog 27 #[.slice a0 l0 c0, .slice a1 l1 c1, .slice a2 l2 c2, .slice a3 l3 c3, .slice a4 l4 c4, .slice a5 l5 c5] w fun e w' => RetB e (fun _ => True) ∧ w' = w := by
  go_enter Try.func27, Try.ntmps27
  go_wp2
  all_goals go_ret
  all_goals exact ⟨⟨_, rfl, trivial⟩, rfl⟩

theorem keysShaped42 (a0 a1 a2 : Option Addr) (l0 c0 l1 c1 l2 c2 : Nat) (w : World) :
    Calls Try.prog 42 #[.slice a0 l0 c0, .slice a1 l1 c1, .slice a2 l2 c2] w fun e w' => RetB e (fun r => r = true → 0 < l0 ∧ l1 = l0 ∧ l2 = l0) ∧ w' = w := by
  go_enter Try.func42, Try.ntmps42
  go_wp2
  all_goals go_ret
  · exact ⟨⟨_, rfl, fun h => by simp at h; omega⟩, rfl⟩
  · exact ⟨⟨_, rfl, fun h => by simp at h⟩, rfl⟩
  · exact ⟨⟨_, rfl, fun h => by simp at h⟩, rfl⟩

theorem spanFits43 (b off len cap : Nat) (zs : List Int) (w : World) (h0 : 0 < len) (hl : len ≤ 65536) (hc : ∀ i, i < len → w.cell? ⟨b, off + i, none⟩ = some (.int .i64 (zs.getD i 0))) :
    Calls Try.prog 43 #[.slice (some ⟨b, off, none⟩) len cap] w fun e w' => RetB e (fun _ => True) ∧ w' = w := by
  have c0 : w.cell? ⟨b, off, none⟩ = some (.int .i64 (zs.getD 0 0)) := by have := hc 0 h0; rwa [Nat.add_zero] at this
  go_enter Try.func43, Try.ntmps43
  go_wp2
  go_loop [3, 4, 5] (fun l h i => ∃ (k : Nat) (x y : Int), 1 ≤ k ∧ k ≤ len ∧ i = .int .i64 k ∧ l = .int .i64 x ∧ h = .int .i64 y) (fun _ _ i => len - (intOf i).toNat)
  case atStart => exact ⟨1, _, _, by omega, by omega, rfl, rfl, rfl⟩
  case round =>
    obtain ⟨k, x, y, hk0, hk, rfl, rfl, rfl⟩ := hrel
    by_cases hlt : k < len
    · have ck := hc k hlt
      clear hc c0
      go_wp2
      all_goals
        go_round
        case rel => exact ⟨k + 1, _, _, by omega, by omega, by go_num, rfl, rfl⟩
        case measure => simp [intOf]; omega
    · go_wp2
      all_goals go_ret
      all_goals exact ⟨⟨_, rfl, trivial⟩, rfl⟩

/-- What the walks are told of a slice of ints that came in, its elements zs: where there is an element it leads to cells. -/
def Ints (w : World) (a : Option Addr) (len : Nat) (zs : List Int) : Prop :=
  zs.length = len ∧ (0 < len → ∃ b off, a = some ⟨b, off, none⟩ ∧ ∀ i, i < len → w.cell? ⟨b, off + i, none⟩ = some (.int .i64 (zs.getD i 0)))

/-- What 'true' of keysFit says. -/
def FitP (l0 l1 l2 : Nat) (r : Bool) : Prop := r = true → 0 < l0 ∧ l1 = l0 ∧ l2 = l0 ∧ l0 ≤ 65536
theorem fit_no {l0 l1 l2 : Nat} {w : World} : RetB (.returned (.bool false)) (FitP l0 l1 l2) ∧ w = w := ⟨⟨_, rfl, fun h => by cases h⟩, rfl⟩
theorem fit_any {l0 l1 l2 : Nat} {w : World} (r : Bool) (h : 0 < l0 ∧ l1 = l0 ∧ l2 = l0 ∧ l0 ≤ 65536) : RetB (.returned (.bool r)) (FitP l0 l1 l2) ∧ w = w := ⟨⟨_, rfl, fun _ => h⟩, rfl⟩

set_option maxHeartbeats 400000 in
theorem keysFit22 (a0 a1 a2 : Option Addr) (l0 c0 l1 c1 l2 c2 : Nat) (z0 z1 z2 : List Int) (w : World)
    (i0 : Ints w a0 l0 z0) (i1 : Ints w a1 l1 z1) (i2 : Ints w a2 l2 z2)
    (h0 : (l0 : Int) ≤ 9223372036854775807) (h1 : (l1 : Int) ≤ 9223372036854775807) (h2 : (l2 : Int) ≤ 9223372036854775807) :
    Calls Try.prog 22 #[.slice a0 l0 c0, .slice a1 l1 c1, .slice a2 l2 c2] w fun e w' => RetB e (FitP l0 l1 l2) ∧ w' = w := by
  by_cases hbig : l0 ≤ 65536 ∧ l1 ≤ 65536 ∧ l2 ≤ 65536 ∧ 8 * (l0 + l1 + l2) ≤ 1048576
  · obtain ⟨b0, b1, b2, b3⟩ := hbig
    by_cases hsh : 0 < l0 ∧ l1 = l0 ∧ l2 = l0
    · have hp := hsh.1
      obtain rfl := hsh.2.1.symm
      obtain rfl := hsh.2.2.symm
      obtain ⟨bb0, o0, rfl, hc0⟩ := i0.2 hp
      obtain ⟨bb1, o1, rfl, hc1⟩ := i1.2 hp
      obtain ⟨bb2, o2, rfl, hc2⟩ := i2.2 hp
      go_enter Try.func22, Try.ntmps22
      go_wp2_with fail
      refine (keysShaped42 _ _ _ _ _ _ _ _ _ _).mono ?_
      rintro e w' ⟨⟨r, rfl, hr⟩, rfl⟩
      cases r
      · go_wp2_with fail
        go_ret
        exact fit_no
      · clear hr
        go_wp2_with fail
        go_loop [7] (fun i => ∃ (k : Nat), k ≤ l0 ∧ i = .int .i64 k) (fun i => l0 - (intOf i).toNat)
        case atStart => exact ⟨0, by omega, rfl⟩
        case round =>
          obtain ⟨k, hk, rfl⟩ := hrel
          by_cases hlt : k < l0
          · have ck := hc1 k hlt
            go_wp2_with fail
            · go_ret
              exact fit_no
            · go_round
              case rel => exact ⟨k + 1, by omega, by go_num⟩
              case measure => simp [intOf]; omega
          · go_wp2_with fail
            refine (spanFits43 bb0 o0 l0 c0 z0 _ hp b0 hc0).mono ?_
            rintro e w' ⟨⟨r, rfl, -⟩, rfl⟩
            cases r
            · go_wp2_with fail
              go_ret
              exact fit_no
            · go_wp2_with fail
              refine (spanFits43 bb1 o1 l0 c1 z1 _ hp b0 hc1).mono ?_
              rintro e w' ⟨⟨r, rfl, -⟩, rfl⟩
              cases r
              · go_wp2_with fail
                go_ret
                exact fit_no
              · go_wp2_with fail
                refine (spanFits43 bb2 o2 l0 c2 z2 _ hp b0 hc2).mono ?_
                rintro e w' ⟨⟨r, rfl, -⟩, rfl⟩
                go_wp2_with fail
                go_ret
                exact fit_any _ ⟨hp, rfl, rfl, b0⟩
    · go_enter Try.func22, Try.ntmps22
      go_wp2_with fail
      refine (keysShaped42 _ _ _ _ _ _ _ _ _ _).mono ?_
      rintro e w' ⟨⟨r, rfl, hr⟩, rfl⟩
      cases r
      · go_wp2_with fail
        go_ret
        exact fit_no
      · exact absurd (hr rfl) hsh
  · go_enter Try.func22, Try.ntmps22
    go_wp2_with fail
    all_goals go_ret
    all_goals exact fit_no

/-- What 'true' of twoKeyListsFit says. -/
def TwoP (l0 l1 l2 l3 l4 l5 : Nat) (r : Bool) : Prop := r = true → (0 < l0 ∧ l1 = l0 ∧ l2 = l0 ∧ l0 ≤ 65536) ∧ 0 < l3 ∧ l4 = l3 ∧ l5 = l3 ∧ l3 ≤ 65536
theorem two_no {l0 l1 l2 l3 l4 l5 : Nat} {w : World} : RetB (.returned (.bool false)) (TwoP l0 l1 l2 l3 l4 l5) ∧ w = w := ⟨⟨_, rfl, fun h => by cases h⟩, rfl⟩

set_option maxHeartbeats 1000000 in
theorem twoFit28 (a0 a1 a2 a3 a4 a5 : Option Addr) (l0 c0 l1 c1 l2 c2 l3 c3 l4 c4 l5 c5 : Nat) (z3 z4 z5 : List Int) (w : World)
    (i3 : Ints w a3 l3 z3) (i4 : Ints w a4 l4 z4) (i5 : Ints w a5 l5 z5)
    (h0 : (l0 : Int) ≤ 9223372036854775807) (h1 : (l1 : Int) ≤ 9223372036854775807) (h2 : (l2 : Int) ≤ 9223372036854775807) (h3 : (l3 : Int) ≤ 9223372036854775807) (h4 : (l4 : Int) ≤ 9223372036854775807) (h5 : (l5 : Int) ≤ 9223372036854775807) :
    Calls Try.prog 28 #[.slice a0 l0 c0, .slice a1 l1 c1, .slice a2 l2 c2, .slice a3 l3 c3, .slice a4 l4 c4, .slice a5 l5 c5] w fun e w' => RetB e (TwoP l0 l1 l2 l3 l4 l5) ∧ w' = w := by
  by_cases hbig : l0 ≤ 65536 ∧ l1 ≤ 65536 ∧ l2 ≤ 65536 ∧ l3 ≤ 65536 ∧ l4 ≤ 65536 ∧ l5 ≤ 65536 ∧ 8 * (l0 + l1 + l2 + l3 + l4 + l5) ≤ 1048576
  · obtain ⟨b0, b1, b2, b3, b4, b5, b6⟩ := hbig
    go_enter Try.func28, Try.ntmps28
    go_wp2_with fail
    refine (keysShaped42 _ _ _ _ _ _ _ _ _ _).mono ?_
    rintro e w' ⟨⟨r, rfl, hr⟩, rfl⟩
    cases r
    · go_wp2_with fail
      go_ret
      exact two_no
    · have hs : Hid (0 < l0 ∧ l1 = l0 ∧ l2 = l0) := hr rfl
      clear hr
      go_wp2_with fail
      refine (keysFit22 _ _ _ _ _ _ _ _ _ z3 z4 z5 _ i3 i4 i5 h3 h4 h5).mono ?_
      rintro e w' ⟨⟨r, rfl, hf⟩, rfl⟩
      go_wp2_with fail
      go_ret
      exact ⟨⟨_, rfl, fun h => ⟨⟨hs.out.1, hs.out.2.1, hs.out.2.2, b0⟩, hf (by simpa using h)⟩⟩, rfl⟩
  · go_enter Try.func28, Try.ntmps28
    go_wp2_with fail
    all_goals go_ret
    all_goals exact two_no
end Go.Proofs.Qxb6602564a
