/-
  THE WALKS OF THE HEX LAW: zzb1HexVal, hex4, ZZHex4, zzBytes.
-/
import Derived.Test.Qxb6604237aRows
import Derived.Test.Qxb6604237aMem
namespace Go.Proofs.Qxb6604237a
open Go.RowKit
set_option linter.unusedVariables false

/-! ### plain: a hex digit and its value -/
def isHex (c : Int) : Bool := decide ((48 ≤ c ∧ c ≤ 57) ∨ (97 ≤ c ∧ c ≤ 102) ∨ (65 ≤ c ∧ c ≤ 70))
def dig (c : Int) : Int := if 48 ≤ c ∧ c ≤ 57 then c - 48 else if 97 ≤ c ∧ c ≤ 102 then c - 87 else if 65 ≤ c ∧ c ≤ 70 then c - 55 else 0
theorem dig_bd (c : Int) : 0 ≤ dig c ∧ dig c ≤ 15 := by unfold dig; split <;> (try split) <;> (try split) <;> omega
def lowN (d : Nat) : Int := if d < 10 then 48 + d else 87 + d
def upN (d : Nat) : Int := if d < 10 then 48 + d else 55 + d
theorem lt16 {d : Nat} (h : d < 16) : d = 0 ∨ d = 1 ∨ d = 2 ∨ d = 3 ∨ d = 4 ∨ d = 5 ∨ d = 6 ∨ d = 7 ∨ d = 8 ∨ d = 9 ∨ d = 10 ∨ d = 11 ∨ d = 12 ∨ d = 13 ∨ d = 14 ∨ d = 15 := by omega
theorem run_low (d : Nat) (hd : d < 16) (w : World) : (Instr.index 9 (.string ⟨#[48, 49, 50, 51, 52, 53, 54, 55, 56, 57, 97, 98, 99, 100, 101, 102]⟩) (.int .i64 (d : Int))).run Try.prog w = .ok (.int .u8 (lowN d)) w := by
  rcases lt16 hd with rfl | rfl | rfl | rfl | rfl | rfl | rfl | rfl | rfl | rfl | rfl | rfl | rfl | rfl | rfl | rfl <;> kernel_rfl
theorem run_up (d : Nat) (hd : d < 16) (w : World) : (Instr.index 9 (.string ⟨#[48, 49, 50, 51, 52, 53, 54, 55, 56, 57, 65, 66, 67, 68, 69, 70]⟩) (.int .i64 (d : Int))).run Try.prog w = .ok (.int .u8 (upN d)) w := by
  rcases lt16 hd with rfl | rfl | rfl | rfl | rfl | rfl | rfl | rfl | rfl | rfl | rfl | rfl | rfl | rfl | rfl | rfl <;> kernel_rfl
/-- None of the digits before d. -/
def NotYet (c : Int) (d : Nat) : Prop := ∀ d', d' < d → c ≠ lowN d' ∧ c ≠ upN d'
theorem hit {c : Int} {d : Nat} (hd : d < 16) (h : c = lowN d ∨ c = upN d) : dig c = d ∧ isHex c = true := by
  unfold lowN upN at h
  unfold dig isHex
  simp only [decide_eq_true_eq]
  rcases h with h | h
  · split at h
    · rw [if_pos (by omega)]; omega
    · rw [if_neg (by omega), if_pos (by omega)]; omega
  · split at h
    · rw [if_pos (by omega)]; omega
    · rw [if_neg (by omega), if_neg (by omega), if_pos (by omega)]; omega
theorem miss {c : Int} (h : NotYet c 16) : dig c = 0 ∧ isHex c = false := by
  have no : ¬ ((48 ≤ c ∧ c ≤ 57) ∨ (97 ≤ c ∧ c ≤ 102) ∨ (65 ≤ c ∧ c ≤ 70)) := by
    intro hh
    rcases hh with hh | hh | hh
    · have h1 := (h (c - 48).toNat (by omega)).1; unfold lowN at h1; rw [if_pos (by omega)] at h1; omega
    · have h1 := (h (c - 87).toNat (by omega)).1; unfold lowN at h1; rw [if_neg (by omega)] at h1; omega
    · have h1 := (h (c - 55).toNat (by omega)).2; unfold upN at h1; rw [if_neg (by omega)] at h1; omega
  unfold dig isHex
  exact ⟨by rw [if_neg (by omega), if_neg (by omega), if_neg (by omega)], decide_eq_false no⟩

theorem ret2 {k : IntKind} {a b : Int} {p q : Bool} (h1 : a = b) (h2 : p = q) : Ending.returned (.tuple #[.int k a, .bool p]) = .returned (.tuple #[.int k b, .bool q]) := by rw [h1, h2]

theorem hexVal15 (c : Int) (h0 : 0 ≤ c) (h1 : c ≤ 255) (w : World) :
    Calls Try.prog 15 #[.int .u8 c] w fun e w' => e = .returned (.tuple #[.int .i32 (dig c), .bool (isHex c)]) ∧ w' = w := by
  go_enter Try.func15, Try.ntmps15
  go_wp2
  go_loop [4] (fun i => ∃ (d : Nat), d ≤ 16 ∧ i = .int .i64 d ∧ NotYet c d) (fun i => 16 - (intOf i).toNat)
  case atStart => exact ⟨0, by omega, rfl, fun d' hd => by omega⟩
  case round =>
    obtain ⟨d, hd, rfl, hN⟩ := hrel
    by_cases hlt : d < 16
    · have r1 := run_low d hlt
      have r2 := run_up d hlt
      have b1 : 0 ≤ lowN d ∧ lowN d ≤ 255 := by unfold lowN; split <;> omega
      have b2 : 0 ≤ upN d ∧ upN d ≤ 255 := by unfold upN; split <;> omega
      have HS : Hid (c ≠ lowN d → c ≠ upN d → NotYet c (d + 1)) := fun g1 g2 d' hd' => by
        by_cases e : d' = d
        · subst e; exact ⟨g1, g2⟩
        · exact hN d' (by omega)
      have HT : Hid (c = lowN d ∨ c = upN d → dig c = d ∧ isHex c = true) := fun h => hit hlt h
      clear hN
      generalize lowN d = lo at *
      generalize upN d = up at *
      by_cases g1 : c = lo
      · have t1 : (c == lo) = true := by simpa using g1
        have H1 := HT.out (.inl g1)
        have HH : Hid (dig c = d ∧ isHex c = true) := H1
        clear g1 H1 HS HT
        go_wp2
        go_ret2
        exact ⟨ret2 HH.out.1.symm HH.out.2.symm, rfl⟩
      · have t1 : (c == lo) = false := by simpa using g1
        by_cases g2 : c = up
        · have t2 : (c == up) = true := by simpa using g2
          have HH : Hid (dig c = d ∧ isHex c = true) := HT.out (.inr g2)
          clear g1 g2 HS HT
          go_wp2
          go_ret2
          exact ⟨ret2 HH.out.1.symm HH.out.2.symm, rfl⟩
        · have t2 : (c == up) = false := by simpa using g2
          have HN : Hid (NotYet c (d + 1)) := HS.out g1 g2
          clear g1 g2 HS HT
          go_wp2
          go_round
          case rel => exact ⟨d + 1, by omega, by go_num, HN.out⟩
          case measure => simp [intOf]; omega
    · have ed : d = 16 := by omega
      subst ed
      have HM : Hid (dig c = 0 ∧ isHex c = false) := miss hN
      clear hN
      go_wp2
      go_ret2
      exact ⟨ret2 HM.out.1.symm HM.out.2.symm, rfl⟩

theorem zzBytes13 (a : Option Addr) (l c : Nat) (w : World) (h : (l : Int) ≤ 9223372036854775807) :
    Calls Try.prog 13 #[.slice a l c] w fun e w' => RetB e (fun _ => True) ∧ w' = w := by
  go_enter Try.func13, Try.ntmps13
  go_wp2
  all_goals go_ret
  all_goals exact ⟨⟨_, rfl, trivial⟩, rfl⟩

/-! ### hex4 -/
/-- The number of the first k digits (the bytes 1 .. k). -/
def V (z : Nat → Int) : Nat → Int
  | 0 => 0
  | k + 1 => V z k * 16 + dig (z (k + 1))
def hexB (z : Nat → Int) : Bool := isHex (z 1) && isHex (z 2) && isHex (z 3) && isHex (z 4)
def hexV (z : Nat → Int) : Int := if hexB z then V z 4 else 0
def AllHex (z : Nat → Int) (k : Nat) : Prop := ∀ i, i < k → isHex (z (i + 1)) = true
theorem V_bd (z : Nat → Int) : ∀ k, k ≤ 4 → 0 ≤ V z k ∧ V z k ≤ 65535 ∧ (k < 4 → V z k ≤ 4095)
  | 0, _ => by simp [V]
  | 1, _ => by have := dig_bd (z 1); simp [V]; omega
  | 2, _ => by have := dig_bd (z 1); have := dig_bd (z 2); simp [V]; omega
  | 3, _ => by have := dig_bd (z 1); have := dig_bd (z 2); have := dig_bd (z 3); simp [V]; omega
  | 4, _ => by have := dig_bd (z 1); have := dig_bd (z 2); have := dig_bd (z 3); have := dig_bd (z 4); simp [V]; omega
  | n + 5, h => by omega
theorem hex_all {z : Nat → Int} (h : AllHex z 4) : hexB z = true := by
  unfold hexB; rw [h 0 (by omega), h 1 (by omega), h 2 (by omega), h 3 (by omega)]; rfl
theorem hex_not {z : Nat → Int} {k : Nat} (hk : k < 4) (h : isHex (z (k + 1)) = false) : hexB z = false := by
  unfold hexB
  have h4 : k = 0 ∨ k = 1 ∨ k = 2 ∨ k = 3 := by omega
  rcases h4 with rfl | rfl | rfl | rfl <;> simp_all
theorem or16 (u d : Int) (h0 : 0 ≤ u) (h1 : u ≤ 4095) (h2 : 0 ≤ d) (h3 : d ≤ 15) : bits .or .i32 (u * 16) d = u * 16 + d :=
  bits_join .i32 31 (by decide) wraps_i32 4 (u * 16) d (by omega) (by omega) (by omega) h2 (by omega) (by omega)

def bytes (z : Nat → Int) : Nat → Value := fun i => .int .u8 (z i)
theorem hex4_25 (b n c : Nat) (z : Nat → Int) (w : World) (hn : 5 ≤ n) (hl : n ≤ 1048576) (hc : n ≤ c) (hcm : (c : Int) ≤ 9223372036854775807) (hz : ∀ i, i < n → 0 ≤ z i ∧ z i ≤ 255) (r : Row w b 5 n (bytes z)) (hu : z 0 = 117) :
    Calls Try.prog 25 #[.slice (some ⟨b, 0, none⟩) n c] w fun e w' => e = .returned (.tuple #[.int .i32 (hexV z), .bool (hexB z)]) ∧ w' = w := by
  have c0 := r.cell (i := 0) (by omega)
  unfold bytes at c0
  rw [hu] at c0
  go_enter Try.func25, Try.ntmps25
  have hd : decide ((n : Int) < 5) = false := decide_eq_false (by omega)
  go_wp2
  go_loop [4, 19] (fun u i => ∃ (k : Nat), k ≤ 4 ∧ i = .int .i64 k ∧ u = .int .i32 (V z k) ∧ AllHex z k) (fun _ i => 4 - (intOf i).toNat)
  case atStart => exact ⟨0, by omega, rfl, rfl, fun i hi => by omega⟩
  case round =>
    obtain ⟨k, hk, rfl, rfl, hA⟩ := hrel
    by_cases hlt : k < 4
    · have ck : w.cell? ⟨b, 1 + k, none⟩ = some (.int .u8 (z (k + 1))) := by
        have h := r.cell (i := 1 + k) (by omega)
        unfold bytes at h
        rw [h, Nat.add_comm 1 k]
      have hcz := hz (k + 1) (by omega)
      have hV := V_bd z k (by omega)
      have hV2 := hV.2.2 hlt
      have HS : Hid (isHex (z (k + 1)) = true → AllHex z (k + 1)) := fun h i hi => by
        by_cases e : i = k
        · subst e; exact h
        · exact hA i (by omega)
      have HN : Hid (isHex (z (k + 1)) = false → hexB z = false) := fun h => hex_not hlt h
      obtain ⟨cv, hcv⟩ : ∃ cv, cv = z (k + 1) := ⟨_, rfl⟩
      have HC : Hid (cv = z (k + 1)) := hcv
      rw [← hcv] at ck hcz HS HN
      have hki : (k : Int) < 4 := by omega
      clear hcv hA c0 hz r hd
      rcases (show (48 ≤ cv ∧ cv ≤ 57) ∨ (97 ≤ cv ∧ cv ≤ 102) ∨ (65 ≤ cv ∧ cv ≤ 70) ∨ ¬ ((48 ≤ cv ∧ cv ≤ 57) ∨ (97 ≤ cv ∧ cv ≤ 102) ∨ (65 ≤ cv ∧ cv ≤ 70)) from by omega) with g | g | g | g
      · obtain ⟨g1, g2⟩ := g
        have hor := or16 (V z k) (cv - 48) hV.1 hV2 (by omega) (by omega)
        have HV : Hid (V z (k + 1) = V z k * 16 + (cv - 48)) := by
          show V z k * 16 + dig (z (k + 1)) = _
          rw [← HC.out, show dig cv = cv - 48 by unfold dig; rw [if_pos (by omega)]]
        have HA : Hid (AllHex z (k + 1)) := HS.out (by unfold isHex; exact decide_eq_true (by omega))
        clear HS
        generalize V z k = vk at *
        go_wp2
        go_round
        case rel => exact ⟨k + 1, by omega, by go_num, by rw [HV.out], HA.out⟩
        case measure => simp [intOf]; omega
      · obtain ⟨g1, g2⟩ := g
        have hor := or16 (V z k) (cv - 87) hV.1 hV2 (by omega) (by omega)
        have HV : Hid (V z (k + 1) = V z k * 16 + (cv - 87)) := by
          show V z k * 16 + dig (z (k + 1)) = _
          rw [← HC.out, show dig cv = cv - 87 by unfold dig; rw [if_neg (by omega), if_pos (by omega)]]
        have HA : Hid (AllHex z (k + 1)) := HS.out (by unfold isHex; exact decide_eq_true (by omega))
        clear HS
        generalize V z k = vk at *
        go_wp2
        go_round
        case rel => exact ⟨k + 1, by omega, by go_num, by rw [HV.out], HA.out⟩
        case measure => simp [intOf]; omega
      · obtain ⟨g1, g2⟩ := g
        have hor := or16 (V z k) (cv - 55) hV.1 hV2 (by omega) (by omega)
        have HV : Hid (V z (k + 1) = V z k * 16 + (cv - 55)) := by
          show V z k * 16 + dig (z (k + 1)) = _
          rw [← HC.out, show dig cv = cv - 55 by unfold dig; rw [if_neg (by omega), if_neg (by omega), if_pos (by omega)]]
        have HA : Hid (AllHex z (k + 1)) := HS.out (by unfold isHex; exact decide_eq_true (by omega))
        clear HS
        generalize V z k = vk at *
        go_wp2
        go_round
        case rel => exact ⟨k + 1, by omega, by go_num, by rw [HV.out], HA.out⟩
        case measure => simp [intOf]; omega
      · have HB : Hid (hexB z = false) := HN.out (by unfold isHex; exact decide_eq_false g)
        clear HS HN HC
        go_wp2
        all_goals first | (exfalso; omega) | (go_ret2; exact ⟨ret2 (by unfold hexV; rw [HB.out]; rfl) HB.out.symm, rfl⟩)
    · have ek : k = 4 := by omega
      subst ek
      have HB : Hid (hexB z = true) := hex_all hA
      clear hA c0 hz r
      go_wp2
      go_ret2
      exact ⟨ret2 (by unfold hexV; rw [HB.out]; rfl) HB.out.symm, rfl⟩

/-- Too short, or it does not open with the letter u. -/
theorem hex4_short (a : Option Addr) (n c : Nat) (w : World) (hn : n < 5) :
    Calls Try.prog 25 #[.slice a n c] w fun e w' => e = .returned (.tuple #[.int .i32 0, .bool false]) ∧ w' = w := by
  have hi : (n : Int) < 5 := by omega
  go_enter Try.func25, Try.ntmps25
  go_wp2
  go_ret2
  exact ⟨rfl, rfl⟩
theorem hex4_other (b n c : Nat) (x : Int) (w : World) (hn : 5 ≤ n) (hc : w.cell? ⟨b, 0, none⟩ = some (.int .u8 x)) (hx : x ≠ 117) :
    Calls Try.prog 25 #[.slice (some ⟨b, 0, none⟩) n c] w fun e w' => e = .returned (.tuple #[.int .i32 0, .bool false]) ∧ w' = w := by
  have hi : ¬ (n : Int) < 5 := by omega
  have t : (x != 117) = true := by simpa using hx
  clear hx
  go_enter Try.func25, Try.ntmps25
  go_wp2
  go_ret2
  exact ⟨rfl, rfl⟩
/-- ZZHex4 hands hex4's answer on. -/
theorem zzHex14 (v : Value) (n : Nat) (a : Option Addr) (c : Nat) (x : Int) (p : Bool) (w : World)
    (h : Calls Try.prog 25 #[.slice a n c] w fun e w' => e = .returned (.tuple #[.int .i32 x, .bool p]) ∧ w' = w) :
    Calls Try.prog 14 #[.slice a n c] w fun e w' => e = .returned (.tuple #[.int .i32 x, .bool p]) ∧ w' = w := by
  go_enter Try.func14, Try.ntmps14
  go_wp2_with fail
  refine h.mono ?_
  rintro e w' ⟨rfl, rfl⟩
  clear h
  go_wp2_with fail
  go_ret2
  exact ⟨rfl, rfl⟩
end Go.Proofs.Qxb6604237a
