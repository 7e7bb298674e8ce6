/-
  zzShapeOK AND zzCapsOK, over a row of lengths.
-/
import Derived.Test.Qxb6602566aPb
namespace Go.Proofs.Qxb6602566a
open Go.RowKit
set_option linter.unusedVariables false

/-- The documented shape of a list, read off its k block lengths. -/
def Shape (k : Nat) (m : Nat → Nat) (h n : Int) : Prop :=
  (k = 0 ∧ h = 0 ∧ n = 0) ∨ (0 < k ∧ (∀ i, i < k → 1 ≤ m i ∧ m i ≤ 4096) ∧ (∀ i, i + 1 < k → m i = 4096) ∧ 0 ≤ h ∧ h < m 0 ∧ n = (tot m k : Int) - h)
def ShapeP (k : Nat) (m : Nat → Nat) (h n : Int) (r : Bool) : Prop := r = true ↔ Shape k m h n
theorem shape_no {k : Nat} {m : Nat → Nat} {h n : Int} {w : World} (H : ¬ Shape k m h n) : RetB (.returned (.bool false)) (ShapeP k m h n) ∧ w = w := ⟨⟨_, rfl, ⟨(fun h => Bool.noConfusion h), fun h => absurd h H⟩⟩, rfl⟩
theorem shape_yes {k : Nat} {m : Nat → Nat} {h n : Int} {w : World} (H : Shape k m h n) : RetB (.returned (.bool true)) (ShapeP k m h n) ∧ w = w := ⟨⟨_, rfl, ⟨fun _ => H, fun _ => rfl⟩⟩, rfl⟩
def ints (m : Nat → Nat) : Nat → Value := fun i => .int .i64 (m i)
set_option maxRecDepth 100000 in
set_option maxHeartbeats 4000000 in
theorem shape17 (k : Nat) (m : Nat → Nat) (h n : Int) (lb : Nat) (c : Nat) (w : World) (hk : k ≤ 65536) (R : Row w lb 3 k (ints m)) (hm : ∀ i, i < k → (m i : Int) ≤ 9223372036854775807) :
    Calls Try.prog 17 #[.slice (some ⟨lb, 0, none⟩) k c, .int .i64 h, .int .i64 n] w fun e w' => RetB e (ShapeP k m h n) ∧ w' = w := by
  by_cases h0 : k = 0
  · have hz : ((k : Int) == 0) = true := by simp; omega
    have H0 : Hid (k = 0) := h0
    clear h0 R
    by_cases h1 : h = 0
    · by_cases h2 : n = 0
      · have Y : Hid (Shape k m h n) := .inl ⟨H0.out, h1, h2⟩
        have b1 : (h == 0) = true := by simp [h1]
        have b2 : (n == 0) = true := by simp [h2]
        clear h1 h2
        go_enter Try.func17, Try.ntmps17
        go_wp2
        go_ret
        exact shape_yes Y.out
      · have Y : Hid (¬ Shape k m h n) := fun H => by rcases H with ⟨_, _, e⟩ | ⟨e, _⟩; exact h2 e; have := H0.out; omega
        have b1 : (h == 0) = true := by simp [h1]
        have b2 : (n == 0) = false := by simp [h2]
        clear h1 h2
        go_enter Try.func17, Try.ntmps17
        go_wp2
        go_ret
        exact shape_no Y.out
    · have Y : Hid (¬ Shape k m h n) := fun H => by rcases H with ⟨_, e, _⟩ | ⟨e, _⟩; exact h1 e; have := H0.out; omega
      have b1 : (h == 0) = false := by simp [h1]
      clear h1
      go_enter Try.func17, Try.ntmps17
      go_wp2
      go_ret
      exact shape_no Y.out
  · have hz : ((k : Int) == 0) = false := by simp; omega
    have c0 : w.cell? ⟨lb, 0, none⟩ = some (.int .i64 (m 0)) := R.cell (by omega)
    go_enter Try.func17, Try.ntmps17
    go_wp2
    go_loop [7, 9] (fun t i => ∃ j : Nat, j ≤ k ∧ i = .int .i64 j ∧ t = .int .i64 (tot m j) ∧ ∀ i, i < j → (1 ≤ m i ∧ m i ≤ 4096) ∧ (i + 1 < k → m i = 4096)) (fun _ i => k - (intOf i).toNat)
    case atStart => exact ⟨0, by omega, rfl, rfl, fun i hi => by omega⟩
    case round =>
      obtain ⟨j, hj, rfl, rfl, hI⟩ := hrel
      have hT : tot m j ≤ j * 4096 := tot_le m (fun i hi => (hI i hi).1.2)
      by_cases hlt : j < k
      · have cj : w.cell? ⟨lb, j, none⟩ = some (.int .i64 (m j)) := R.cell hlt
        have zj := hm j hlt
        have hle : (j : Int) ≤ (k : Int) - 1 := by omega
        have HI : Hid (∀ i, i < j → (1 ≤ m i ∧ m i ≤ 4096) ∧ (i + 1 < k → m i = 4096)) := hI
        clear hI R hm
        by_cases a1 : 1 ≤ m j
        · by_cases a2 : m j ≤ 4096
          · by_cases a3 : j + 1 < k
            · have hl2 : (j : Int) < (k : Int) - 1 := by omega
              by_cases a4 : m j = 4096
              · have b4 : ((m j : Int) != 4096) = false := by simp; omega
                have H4 : Hid (m j = 4096) := a4
                clear a4
                go_wp2
                go_round
                case rel => exact ⟨j + 1, by omega, by go_num, by show Value.int .i64 _ = Value.int .i64 ((tot m j + m j : Nat) : Int); congr 1, fun i hi => by
                  by_cases e : i = j
                  · subst e; exact ⟨⟨a1, a2⟩, fun _ => H4.out⟩
                  · exact HI.out i (by omega)⟩
                case measure => simp [intOf]; omega
              · have b4 : ((m j : Int) != 4096) = true := by simp; omega
                have Y : Hid (¬ Shape k m h n) := fun H => by
                  rcases H with ⟨e, _⟩ | ⟨_, _, e, _⟩
                  · omega
                  · exact a4 (e j a3)
                clear a4
                go_wp2
                go_ret
                exact shape_no Y.out
            · have hl2 : ¬ (j : Int) < (k : Int) - 1 := by omega
              go_wp2
              go_round
              case rel => exact ⟨j + 1, by omega, by go_num, by show Value.int .i64 _ = Value.int .i64 ((tot m j + m j : Nat) : Int); congr 1, fun i hi => by
                by_cases e : i = j
                · subst e; exact ⟨⟨a1, a2⟩, fun h => by omega⟩
                · exact HI.out i (by omega)⟩
              case measure => simp [intOf]; omega
          · have Y : Hid (¬ Shape k m h n) := fun H => by
              rcases H with ⟨e, _⟩ | ⟨_, e, _⟩
              · omega
              · exact a2 (e j hlt).2
            go_wp2
            go_ret
            exact shape_no Y.out
        · have Y : Hid (¬ Shape k m h n) := fun H => by
            rcases H with ⟨e, _⟩ | ⟨_, e, _⟩
            · omega
            · exact a1 (e j hlt).1
          go_wp2
          go_ret
          exact shape_no Y.out
      · obtain rfl : j = k := by omega
        have hle : ¬ (j : Int) ≤ (j : Int) - 1 := by omega
        have H0 : Hid (0 < j ∧ (∀ i, i < j → 1 ≤ m i ∧ m i ≤ 4096) ∧ (∀ i, i + 1 < j → m i = 4096)) := ⟨by omega, fun i hi => (hI i hi).1, fun i hi => (hI i (by omega)).2 hi⟩
        have m0 : m 0 ≤ 4096 := (hI 0 (by omega)).1.2
        clear hI R hm
        by_cases a1 : 0 ≤ h
        · by_cases a2 : h < m 0
          · by_cases a3 : n = (tot m j : Int) - h
            · have b3 : (n == (tot m j : Int) - h) = true := by simp [a3]
              have Y : Hid (Shape j m h n) := .inr ⟨H0.out.1, H0.out.2.1, H0.out.2.2, a1, a2, a3⟩
              clear a3
              go_wp2
              go_ret
              exact shape_yes Y.out
            · have b3 : (n == (tot m j : Int) - h) = false := by simp [a3]
              have Y : Hid (¬ Shape j m h n) := fun H => by
                rcases H with ⟨e, _⟩ | ⟨_, _, _, _, _, e⟩
                · have := H0.out.1; omega
                · exact a3 e
              clear a3
              go_wp2
              go_ret
              exact shape_no Y.out
          · have Y : Hid (¬ Shape j m h n) := fun H => by
              rcases H with ⟨e, _⟩ | ⟨_, _, _, _, e, _⟩
              · have := H0.out.1; omega
              · exact a2 e
            go_wp2
            go_ret
            exact shape_no Y.out
        · have Y : Hid (¬ Shape j m h n) := fun H => by
            rcases H with ⟨e, _⟩ | ⟨_, _, _, e, _⟩
            · have := H0.out.1; omega
            · exact a1 e
          go_wp2
          go_ret
          exact shape_no Y.out
def TrueP (w : World) (e : Ending) (w' : World) : Prop := e = .returned (.bool true) ∧ Only [] w w'
set_option maxRecDepth 100000 in
set_option maxHeartbeats 4000000 in
theorem caps24 (k : Nat) (m c : Nat → Nat) (lb cb : Nat) (d d' : Nat) (w : World) (hk : k ≤ 65536) (R : Row w lb 3 k (ints m)) (Rc : Row w cb 3 k (ints c)) (hm : ∀ i, i < k → m i ≤ c i ∧ c i ≤ 4096) :
    Calls Try.prog 24 #[.slice (some ⟨lb, 0, none⟩) k d, .slice (some ⟨cb, 0, none⟩) k d'] w fun e w' => TrueP w e w' := by
  have hz : ((k : Int) != (k : Int)) = false := by simp
  go_enter Try.func24, Try.ntmps24
  go_wp2
  go_loopw [5] (fun i wr => ∃ j : Nat, j ≤ k ∧ i = .int .i64 j ∧ Only [] w wr) (fun i _ => k - (intOf i).toNat)
  case atStart => exact ⟨0, by omega, rfl, Only.refl _ _⟩
  case round =>
    obtain ⟨j, hj, rfl, O⟩ := hrel
    by_cases hlt : j < k
    · have c1 : wr.cell? ⟨lb, j, none⟩ = some (.int .i64 (m j)) := (R.keep O (by simp)).cell hlt
      have c2 : wr.cell? ⟨cb, j, none⟩ = some (.int .i64 (c j)) := (Rc.keep O (by simp)).cell hlt
      obtain ⟨h1, h2⟩ := hm j hlt
      have b1 : decide ((c j : Int) < (m j : Int)) = false := by simp; omega
      have b2 : decide ((c j : Int) > 4096) = false := by simp; omega
      have b3 : decide (4096 < (c j : Int)) = false := by simp; omega
      have n1 : ¬ (c j : Int) < (m j : Int) := by omega
      have n2 : ¬ 4096 < (c j : Int) := by omega
      have hjk : (j : Int) < (k : Int) := by omega
      clear R Rc hm
      go_wp2_with fail
      go_quiet (fail)
      go_wp2
      go_roundw
      case rel => exact ⟨j + 1, by omega, by go_num, O.trans (Only.drewN _ _ _)⟩
      case measure => simp [intOf]; omega
    · clear R Rc hm
      go_wp2
      go_ret
      exact ⟨rfl, O⟩
end Go.Proofs.Qxb6602566a
