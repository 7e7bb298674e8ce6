/-
  COPIES: of bytes, of chunks, of their texts and sizes; and the comparing of bytes.
-/
import Derived.Test.Qxb6602660aRb
import Derived.Deep.CutRange
import Derived.BigRegion
namespace Go.Proofs.Qxb6602660a
open Go.RowKit
set_option linter.unusedVariables false

theorem nil_eq (t e : TypeId) (a : Option Addr) (n c : Nat) (h : Try.prog.underlying t = some (.slice e)) : ∀ w, (binOp .eql t (.slice a n c) (.slice none 0 0)).run Try.prog w = .ok (.bool a.isNone) w := fun w => by
  simp only [binOp]
  simp [Op.equal, Op.maxDepth, Lib.run_equalIn_slice_nil w 9999 t e a n c 0 0 h]
def CopyP (n : Nat) (s : Nat → Int) (w : World) (e : Ending) (w' : World) : Prop :=
  ∃ a' c', e = .returned (.slice a' n c') ∧ Elems w' w'.heap.size a' n 1 (bytes s) ∧ (∀ b o, a' = some ⟨b, o, none⟩ → w.heap.size ≤ b) ∧ Only [] w w'
set_option maxRecDepth 100000 in
set_option maxHeartbeats 4000000 in
theorem copyBytes14 (a : Option Addr) (n c : Nat) (s : Nat → Int) (B : Nat) (w : World) (hE : Elems w B a n 1 (bytes s)) (hn : n ≤ 1048576) :
    Calls Try.prog 14 #[.slice a n c] w fun e w' => CopyP n s w e w' := by
  have hnn := nil_eq 26 5 a n c Try.underlying26
  cases hs : a with
  | none =>
    have h0 : n = 0 := by
      by_cases h : 0 < n
      · obtain ⟨_, _, e, _⟩ := hE h; rw [hs] at e; cases e
      · omega
    subst h0
    rw [hs] at hnn
    have FIN : Hid (CopyP 0 s w (.returned (.slice none 0 0)) w) := ⟨none, 0, rfl, fun h => by omega, (fun _ _ h => by cases h), Only.refl _ _⟩
    clear hE hs
    go_enter Try.func14, Try.ntmps14
    go_wp2
    go_ret
    exact FIN.out
  | some x =>
    rw [hs] at hnn hE
    clear hs
    have hmk : ∀ w : World, (Instr.makeSlice 26 (.int .i64 (n : Int)) (.int .i64 (n : Int))).run Try.prog w = .ok (.slice (some ⟨w.heap.size, 0, none⟩) n n) (w.alloc (.cells (Array.replicate n (.int .u8 0)) 5)) := fun w => by
      have h := run_make_list (P := Try.prog) 26 5 (.int .u8 0) (.int .u8 0) 1 1 n Try.underlying26 Try.info5 rfl (by omega) .i64 .i64 (by omega) (by omega) w
      simpa using h
    have R0 := Row.zeros w n (.int .u8 0) 5
    have O0 := Only.alloc [] w (.cells (Array.replicate n (.int .u8 0)) 5)
    go_enter Try.func14, Try.ntmps14
    go_wp2
    go_loopw [4] (fun i wr => ∃ k : Nat, k ≤ n ∧ i = .int .i64 k ∧ Row wr w.heap.size 5 n (fun j => if j < k then bytes s j else .int .u8 0) ∧ Only [] w wr) (fun i _ => n - (intOf i).toNat)
    case atStart => exact ⟨0, by omega, rfl, R0.ext (fun j _ => by simp), O0⟩
    case round =>
      clear R0 O0 hmk hnn
      obtain ⟨k, hk, rfl, R, O⟩ := hrel
      by_cases hlt : k < n
      · obtain ⟨b, off, e, _, hc⟩ := hE (by omega)
        have hix := run_at1 (P := Try.prog) 26 5 (some x) n c b off .i64 k Try.underlying26 Try.size5 e hlt
        have ck : wr.cell? ⟨b, off + k, none⟩ = some (.int .u8 (s k)) := O.cell (by simp) (hc k (by omega))
        have cw : wr.cell? ⟨w.heap.size, k, none⟩ = some (.int .u8 0) := (R.cell hlt).trans (by simp)
        have fw := R.frozen k
        have FIN : Hid (Row (wr.setCell ⟨w.heap.size, k, none⟩ (.int .u8 (s k))) w.heap.size 5 n (fun j => if j < k + 1 then bytes s j else .int .u8 0) ∧ Only [] w (wr.setCell ⟨w.heap.size, k, none⟩ (.int .u8 (s k)))) := by
          refine ⟨(R.set k _).ext (fun j hj => ?_), O.set _ _ _ (.inr (Nat.le_refl _))⟩
          by_cases e : j = k
          · subst e; rw [upd_at, if_pos (by omega)]; rfl
          · rw [upd_ne _ _ e]
            by_cases h1 : j < k
            · rw [if_pos h1, if_pos (by omega)]
            · rw [if_neg h1, if_neg (by omega)]
        clear hc e hE R O
        go_wp2
        go_roundw
        case rel => exact ⟨k + 1, by omega, by go_num, FIN.out⟩
        case measure => simp [intOf]; omega
      · have FIN : Hid (CopyP n s w (.returned (.slice (some ⟨w.heap.size, 0, none⟩) n n)) wr) :=
          ⟨_, _, rfl, fun _ => ⟨w.heap.size, 0, rfl, R.lt, fun i hi => by rw [Nat.zero_add, R.cell (by omega), if_pos (by omega)]⟩, (fun _ _ h => by cases h; exact Nat.le_refl _), O⟩
        clear hE R O
        go_wp2
        go_ret
        exact FIN.out
def TrueP (w : World) (e : Ending) (w' : World) : Prop := e = .returned (.bool true) ∧ Only [] w w'
set_option maxRecDepth 100000 in
set_option maxHeartbeats 4000000 in
theorem bytesEq21 (a b : Option Addr) (n c d : Nat) (s : Nat → Int) (B B' : Nat) (w : World) (hE : Elems w B a n 1 (bytes s)) (hF : Elems w B' b n 1 (bytes s)) (hn : n ≤ 1048576) :
    Calls Try.prog 21 #[.slice a n c, .slice b n d] w fun e w' => TrueP w e w' := by
  have hz : ((n : Int) != (n : Int)) = false := by simp
  go_enter Try.func21, Try.ntmps21
  go_wp2
  go_loopw [5] (fun i wr => ∃ j : Nat, j ≤ n ∧ i = .int .i64 j ∧ Only [] w wr) (fun i _ => n - (intOf i).toNat)
  case atStart => exact ⟨0, by omega, rfl, Only.refl _ _⟩
  case round =>
    obtain ⟨j, hj, rfl, O⟩ := hrel
    by_cases hlt : j < n
    · obtain ⟨b1, o1, e1, _, hc1⟩ := hE (by omega)
      obtain ⟨b2, o2, e2, _, hc2⟩ := hF (by omega)
      have i1 := run_at1 (P := Try.prog) 26 5 a n c b1 o1 .i64 j Try.underlying26 Try.size5 e1 hlt
      have i2 := run_at1 (P := Try.prog) 26 5 b n d b2 o2 .i64 j Try.underlying26 Try.size5 e2 hlt
      have c1 : wr.cell? ⟨b1, o1 + j, none⟩ = some (.int .u8 (s j)) := O.cell (by simp) (hc1 j (by omega))
      have c2 : wr.cell? ⟨b2, o2 + j, none⟩ = some (.int .u8 (s j)) := O.cell (by simp) (hc2 j (by omega))
      have hb : (s j != s j) = false := by simp
      clear hc1 hc2 e1 e2 hE hF
      go_wp2_with fail
      go_quiet (fail)
      go_wp2
      go_roundw
      case rel => exact ⟨j + 1, by omega, by go_num, O.trans (Only.drewN _ _ _)⟩
      case measure => simp [intOf]; omega
    · clear hE hF
      go_wp2
      go_ret
      exact ⟨rfl, O⟩
def TextsP (p : Ch) (w : World) (e : Ending) (w' : World) : Prop := e = .returned (.slice (some ⟨w.heap.size, 0, none⟩) p.n p.n) ∧ Row w' w.heap.size 9 p.n (fun i => .string (p.T i)) ∧ Only [] w w'
set_option maxRecDepth 100000 in
set_option maxHeartbeats 4000000 in
theorem texts16 (p : Ch) (B : Nat) (w : World) (hL : LaidC w B p) (hn : p.n ≤ 65536) :
    Calls Try.prog 16 #[.slice p.a p.n p.c] w fun e w' => TextsP p w e w' := by
  have hmk : ∀ w : World, (Instr.makeSlice 33 (.int .i64 (p.n : Int)) (.int .i64 (p.n : Int))).run Try.prog w = .ok (.slice (some ⟨w.heap.size, 0, none⟩) p.n p.n) (w.alloc (.cells (Array.replicate p.n (.string ByteArray.empty)) 9)) := fun w => by
    have h := run_make_list (P := Try.prog) 33 9 (.string ByteArray.empty) (.string ByteArray.empty) 1 16 p.n Try.underlying33 Try.info9 rfl (by omega) .i64 .i64 (by omega) (by omega) w
    simpa using h
  have R0 := Row.zeros w p.n (.string ByteArray.empty) 9
  have O0 := Only.alloc [] w (.cells (Array.replicate p.n (.string ByteArray.empty)) 9)
  generalize hwA : w.alloc (.cells (Array.replicate p.n (.string ByteArray.empty)) 9) = wA at R0 O0
  have hmk1 := hmk w
  rw [hwA] at hmk1
  clear hmk hwA
  go_enter Try.func16, Try.ntmps16
  go_wp2
  go_loopw [4] (fun i wr => ∃ k : Nat, k ≤ p.n ∧ i = .int .i64 k ∧ Row wr w.heap.size 9 p.n (fun j => if j < k then .string (p.T j) else .string ByteArray.empty) ∧ Only [] w wr) (fun i _ => p.n - (intOf i).toNat)
  case atStart => exact ⟨0, by omega, rfl, R0.ext (fun j _ => by simp), O0⟩
  case round =>
    clear R0 O0 hmk1
    obtain ⟨k, hk, rfl, R, O⟩ := hrel
    by_cases hlt : k < p.n
    · obtain ⟨b, o, e, c0, c1⟩ := (hL.up O (Nat.le_refl B)).at hlt
      have hix := run_at (P := Try.prog) 25 43 p.a p.n p.c b o 2 .i64 k Try.underlying25 Try.size43 e hlt
      have cw := R.cell hlt
      have fw := R.frozen k
      have FIN : Hid (Row (wr.setCell ⟨w.heap.size, k, none⟩ (.string (p.T k))) w.heap.size 9 p.n (fun j => if j < k + 1 then .string (p.T j) else .string ByteArray.empty) ∧ Only [] w (wr.setCell ⟨w.heap.size, k, none⟩ (.string (p.T k)))) := by
        refine ⟨(R.set k _).ext (fun j hj => ?_), O.set _ _ _ (.inr (Nat.le_refl _))⟩
        by_cases e : j = k
        · subst e; rw [upd_at, if_pos (by omega)]
        · rw [upd_ne _ _ e]
          by_cases h1 : j < k
          · rw [if_pos h1, if_pos (by omega)]
          · rw [if_neg h1, if_neg (by omega)]
      clear hL e R O
      go_wp2
      go_roundw
      case rel => exact ⟨k + 1, by omega, by go_num, FIN.out⟩
      case measure => simp [intOf]; omega
    · have FIN : Hid (TextsP p w (.returned (.slice (some ⟨w.heap.size, 0, none⟩) p.n p.n)) wr) := ⟨rfl, R.ext (fun j hj => by rw [if_pos (by omega)]), O⟩
      clear hL R O
      go_wp2
      go_ret
      exact FIN.out
end Go.Proofs.Qxb6602660a
