/-
  THE GUARDS OF THE popBack LAW, and the readers of a list's shape.
-/
import Derived.Test.Qxb6602566aPb
namespace Go.Proofs.Qxb6602566a
open Go.RowKit
set_option linter.unusedVariables false

theorem any_ret {w : World} {b : Bool} : RetB (.returned (.bool b)) (fun _ => True) ∧ w = w := ⟨⟨_, rfl, trivial⟩, rfl⟩
set_option maxRecDepth 100000 in
set_option maxHeartbeats 4000000 in
theorem zzBytes26 (p : Bs) (lc h n : Int) (B : Nat) (w : World) (hL : LaidB w B p) :
    Calls Try.prog 26 #[.slice p.a p.n p.c, .int .i64 lc, .int .i64 h, .int .i64 n] w fun e w' => RetB e (fun _ => True) ∧ w' = w := by
  have z := hL.z
  go_enter Try.func26, Try.ntmps26
  go_wp2
  all_goals first | (go_ret; exact any_ret) | skip
  go_loop [9, 10] (fun t i => ∃ (k : Nat) (s : Int), k ≤ p.n ∧ i = .int .i64 k ∧ t = .int .i64 s ∧ 0 ≤ s ∧ s ≤ 1048576) (fun _ i => p.n - (intOf i).toNat)
  case atStart => exact ⟨0, _, by omega, rfl, rfl, by omega, by omega⟩
  case round =>
    obtain ⟨k, s, hk, rfl, rfl, hs0, hs1⟩ := hrel
    by_cases hlt : k < p.n
    · obtain ⟨b, off, e, _, hc⟩ := hL.h (by omega)
      have hix := run_at1 (P := Try.prog) 44 52 p.a p.n p.c b off .i64 k Try.underlying44 Try.size52 e (by omega)
      have ck := hc k (by omega)
      clear hc e
      have zk := hL.y k hlt
      clear hL
      go_wp2
      all_goals first | (go_ret; exact any_ret) | skip
      go_round
      case rel => exact ⟨k + 1, _, by omega, by go_num, rfl, by omega, by omega⟩
      case measure => simp [intOf]; omega
    · go_wp2
      go_ret
      exact any_ret
def FewP (p : Bs) (r : Bool) : Prop := r = true → p.n ≤ 65536
theorem few_no {p : Bs} {w : World} : RetB (.returned (.bool false)) (FewP p) ∧ w = w := ⟨⟨_, rfl, fun h => by cases h⟩, rfl⟩
set_option maxRecDepth 100000 in
set_option maxHeartbeats 4000000 in
theorem listBytes16 (p : Bs) (B : Nat) (w : World) (hL : LaidB w B p) :
    Calls Try.prog 16 #[.slice p.a p.n p.c] w fun e w' => RetB e (FewP p) ∧ w' = w := by
  have z := hL.z
  by_cases hn : p.n ≤ 65536
  · go_enter Try.func16, Try.ntmps16
    go_wp2
    all_goals first | (go_ret; exact few_no) | skip
    go_loop [3, 4] (fun t i => ∃ (k : Nat) (s : Int), k ≤ p.n ∧ i = .int .i64 k ∧ t = .int .i64 s ∧ 0 ≤ s ∧ s ≤ 1048576) (fun _ i => p.n - (intOf i).toNat)
    case atStart => exact ⟨0, _, by omega, rfl, rfl, by omega, by omega⟩
    case round =>
      obtain ⟨k, s, hk, rfl, rfl, hs0, hs1⟩ := hrel
      by_cases hlt : k < p.n
      · obtain ⟨b, off, e, _, hc⟩ := hL.h (by omega)
        have hix := run_at1 (P := Try.prog) 44 52 p.a p.n p.c b off .i64 k Try.underlying44 Try.size52 e (by omega)
        have ck := hc k (by omega)
        clear hc e
        have zk := hL.y k hlt
        clear hL
        go_wp2
        all_goals first | (go_ret; exact few_no) | skip
        go_round
        case rel => exact ⟨k + 1, _, by omega, by go_num, rfl, by omega, by omega⟩
        case measure => simp [intOf]; omega
      · go_wp2
        go_ret
        exact ⟨⟨_, rfl, fun _ => hn⟩, rfl⟩
  · clear hL
    go_enter Try.func16, Try.ntmps16
    go_wp2
    all_goals first | (go_ret; exact few_no) | (exfalso; omega)
def LensP (p : Bs) (w : World) (e : Ending) (w' : World) : Prop := e = .returned (.slice (some ⟨w.heap.size, 0, none⟩) p.n p.n) ∧ Row w' w.heap.size 3 p.n (fun i => .int .i64 (p.m i)) ∧ Only [] w w'
set_option maxRecDepth 100000 in
set_option maxHeartbeats 4000000 in
theorem zzLens18 (p : Bs) (B : Nat) (w : World) (hL : LaidB w B p) (hn : p.n ≤ 65536) :
    Calls Try.prog 18 #[.slice p.a p.n p.c] w fun e w' => LensP p w e w' := by
  have hmk : ∀ w : World, (Instr.makeSlice 37 (.int .i64 (p.n : Int)) (.int .i64 (p.n : Int))).run Try.prog w = .ok (.slice (some ⟨w.heap.size, 0, none⟩) p.n p.n) (w.alloc (.cells (Array.replicate p.n (.int .i64 0)) 3)) := fun w => by
    have h := run_make_list (P := Try.prog) 37 3 (.int .i64 0) (.int .i64 0) 1 8 p.n Try.underlying37 Try.info3 rfl (by omega) .i64 .i64 (by omega) (by omega) w
    simpa using h
  have R0 := Row.zeros w p.n (.int .i64 0) 3
  have O0 := Only.alloc [] w (.cells (Array.replicate p.n (.int .i64 0)) 3)
  go_enter Try.func18, Try.ntmps18
  go_wp2
  go_loopw [4] (fun i wr => ∃ k : Nat, k ≤ p.n ∧ i = .int .i64 k ∧ Row wr w.heap.size 3 p.n (fun j => if j < k then .int .i64 (p.m j) else .int .i64 0) ∧ Only [] w wr) (fun i _ => p.n - (intOf i).toNat)
  case atStart => exact ⟨0, by omega, rfl, R0.ext (fun j _ => by simp), O0⟩
  case round =>
    clear R0 O0 hmk
    obtain ⟨k, hk, rfl, R, O⟩ := hrel
    by_cases hlt : k < p.n
    · obtain ⟨b, off, e, _, hc⟩ := hL.h (by omega)
      have hix := run_at1 (P := Try.prog) 44 52 p.a p.n p.c b off .i64 k Try.underlying44 Try.size52 e (by omega)
      have ck := O.cell (by simp) (hc k (by omega))
      have zk := hL.y k hlt
      have cw : wr.cell? ⟨w.heap.size, k, none⟩ = some (.int .i64 0) := (R.cell hlt).trans (by simp)
      have fw := R.frozen k
      have FIN : Hid (Row (wr.setCell ⟨w.heap.size, k, none⟩ (.int .i64 (p.m k))) w.heap.size 3 p.n (fun j => if j < k + 1 then .int .i64 (p.m j) else .int .i64 0) ∧ Only [] w (wr.setCell ⟨w.heap.size, k, none⟩ (.int .i64 (p.m k)))) := by
        refine ⟨(R.set k _).ext (fun j hj => ?_), O.set _ _ _ (.inr (Nat.le_refl _))⟩
        by_cases e : j = k
        · subst e; rw [upd_at, if_pos (by omega)]
        · rw [upd_ne _ _ e]
          by_cases h1 : j < k
          · rw [if_pos h1, if_pos (by omega)]
          · rw [if_neg h1, if_neg (by omega)]
      clear hc e hL R O
      go_wp2
      go_roundw
      case rel => exact ⟨k + 1, by omega, by go_num, FIN.out⟩
      case measure => simp [intOf]; omega
    · have FIN : Hid (LensP p w (.returned (.slice (some ⟨w.heap.size, 0, none⟩) p.n p.n)) wr) := ⟨rfl, R.ext (fun j hj => by rw [if_pos (by omega)]), O⟩
      clear hL R O
      go_wp2
      go_ret
      exact FIN.out
def CapP (p : Bs) (lc : Int) (r : Bool) : Prop := r = true → 0 < p.n → (p.m (p.n - 1) : Int) ≤ lc ∧ lc ≤ 4096
set_option maxRecDepth 100000 in
set_option maxHeartbeats 4000000 in
theorem lastCap19 (p : Bs) (lc : Int) (B : Nat) (w : World) (hL : LaidB w B p) :
    Calls Try.prog 19 #[.slice p.a p.n p.c, .int .i64 lc] w fun e w' => RetB e (CapP p lc) ∧ w' = w := by
  have z := hL.z
  by_cases h0 : p.n = 0
  · have hz : ((p.n : Int) == 0) = true := by simp; omega
    have H0 : Hid (p.n = 0) := h0
    clear h0 hL
    go_enter Try.func19, Try.ntmps19
    go_wp2
    go_ret
    exact ⟨⟨_, rfl, fun _ h => by have := H0.out; omega⟩, rfl⟩
  · have hz : ((p.n : Int) == 0) = false := by simp; omega
    obtain ⟨b, off, e, _, hc⟩ := hL.h (by omega)
    have hix : ∀ w : World, (Instr.indexAt 44 (.slice p.a p.n p.c) (.int .i64 ((p.n : Int) - 1))).run Try.prog w = .ok (.pointer (some ⟨b, off + (p.n - 1), none⟩)) w := fun w => by
      have h := run_at1 (P := Try.prog) 44 52 p.a p.n p.c b off .i64 (p.n - 1) Try.underlying44 Try.size52 e (by omega) w
      rwa [show ((p.n - 1 : Nat) : Int) = (p.n : Int) - 1 by omega] at h
    have ck := hc (p.n - 1) (by omega)
    have zk := hL.y (p.n - 1) (by omega)
    clear hL hc e
    by_cases h1 : (p.m (p.n - 1) : Int) ≤ lc
    · by_cases h2 : lc ≤ 4096
      · go_enter Try.func19, Try.ntmps19
        go_wp2
        go_ret
        exact ⟨⟨_, rfl, fun _ _ => ⟨h1, h2⟩⟩, rfl⟩
      · go_enter Try.func19, Try.ntmps19
        go_wp2
        go_ret
        exact ⟨⟨_, rfl, fun h => by simp at h⟩, rfl⟩
    · go_enter Try.func19, Try.ntmps19
      go_wp2
      go_ret
      exact ⟨⟨_, rfl, fun h => by simp at h⟩, rfl⟩
end Go.Proofs.Qxb6602566a
