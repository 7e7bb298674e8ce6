/-
  THE WALK OF THE LAW FnAdminRowsSpec.
-/
import Derived.Test.Qxb6602566aAdLaw
import Derived.Test.Qxb6602566aAdBytes
namespace Go.Proofs.Qxb6602566a
open Go.RowKit
set_option linter.unusedVariables false
theorem nil_test (t e : TypeId) (a : Option Addr) (n c : Nat) (h : Try.prog.underlying t = some (.slice e)) : ∀ w, (binOp .neq t (.slice a n c) (.slice none 0 0)).run Try.prog w = .ok (.bool a.isSome) w :=
  fun w => (run_neq_slice_nil_any (P := Try.prog) w t e a n c 0 0 h).trans (by cases a <;> rfl)
theorem rowsAt {w : World} {base e size n : Nat} {r : Value} {xs : List Value} (h : w.ownsRow base e size r n xs) : ∃ ra rc, r = .slice ra n rc ∧ (0 < n → ∃ g, ra = some ⟨g, 0, none⟩ ∧ ∀ q u, xs[q]? = some u → w.cell? ⟨g, q, none⟩ = some u) := by
  have hc := @World.ownsRow.cells _ _ _ _ _ _ _ h
  rcases h.2 with ⟨rfl, h0⟩ | ⟨g, cap, cur, rfl, _⟩
  · subst h0; exact ⟨none, 0, rfl, fun h => by omega⟩
  · refine ⟨_, _, rfl, fun _ => ⟨g, rfl, fun q u hu => ?_⟩⟩
    have h1 := hc (g := g) rfl q u hu
    have e : (⟨g, 0, none⟩ : Addr).add q = ⟨g, q, none⟩ := by unfold Addr.add; split <;> simp_all
    rwa [e] at h1
/-- The cells of 'start' when k topics are done. -/
def starts (m : A) (k j : Nat) : Value := if j ≤ k then .int .i64 (st m j) else .int .i64 0
theorem starts_zero (m : A) (j : Nat) : starts m 0 j = .int .i64 0 := by
  unfold starts
  split
  · obtain rfl : j = 0 := by omega
    rfl
  · rfl
theorem starts_step (m : A) (k j : Nat) {z : Int} (hz : z = ((st m (k + 1) : Nat) : Int)) : upd (starts m k) (k + 1) (.int .i64 z) j = starts m (k + 1) j := by
  by_cases e : j = k + 1
  · subst e; rw [upd_at, starts, if_pos (Nat.le_refl _), hz]
  · rw [upd_ne _ _ e]
    unfold starts
    by_cases h : j ≤ k
    · rw [if_pos h, if_pos (by omega)]
    · rw [if_neg h, if_neg (by omega)]
theorem made8 (w : World) (x0 x1 x2 x3 x4 x5 x6 x7 : Value) (T : TypeId) : ∃ w1, w1 = w.alloc (.cells #[x0, x1, x2, x3, x4, x5, x6, x7] T) ∧ w1.cell? ⟨w.heap.size, 0, none⟩ = some x0 ∧ w1.cell? ⟨w.heap.size, 1, none⟩ = some x1 ∧ w1.cell? ⟨w.heap.size, 2, none⟩ = some x2 ∧ w1.cell? ⟨w.heap.size, 3, none⟩ = some x3 ∧ w1.cell? ⟨w.heap.size, 4, none⟩ = some x4 ∧ w1.cell? ⟨w.heap.size, 5, none⟩ = some x5 ∧ w1.cell? ⟨w.heap.size, 6, none⟩ = some x6 ∧ w1.cell? ⟨w.heap.size, 7, none⟩ = some x7 ∧ Only [] w w1 ∧ w1.heap.size = w.heap.size + 1 := by
  refine ⟨_, rfl, ?_, ?_, ?_, ?_, ?_, ?_, ?_, ?_, Only.alloc _ _ _, by simp⟩ <;> simp [World.cell?_alloc_at]
theorem Try.size40 : (Try.prog.info? 40).map (·.size) = some 8 := by kernel_rfl
/-- Behind the three copies the arguments are as they were, but for where three of them lie. -/
def CopiedP (w : World) (s0 s1 s2 s3 s4 s5 s6 s7 s8 : Value) (wx : World) : Prop :=
  ∃ M : A, Laid wx wx.heap.size M ∧ Small M ∧ Aligned M ∧ Only [] w wx ∧ s0 = .string M.ver ∧ s1 = .string M.hea ∧ s2 = .int .i64 M.st ∧ s3 = .slice M.a3 M.n3 M.c3 ∧ s4 = .slice M.a4 M.n4 M.c4 ∧ s5 = .slice M.a5 M.n5 M.c5 ∧ s6 = .slice M.a6 M.n6 M.c6 ∧ s7 = .slice M.a7 M.n7 M.c7 ∧ s8 = .slice M.a8 M.n8 M.c8
def LawP (w : World) (e : Ending) (w' : World) : Prop := e = .returned (.bool true) ∧ Only [] w w'

set_option maxRecDepth 100000 in
set_option maxHeartbeats 4000000 in
theorem law3 (m : A) (B : Nat) (w : World) (hL : Laid w B m) (hB : B ≤ w.heap.size) :
    Calls Try.prog 3 #[.string m.ver, .string m.hea, .int .i64 m.st, .slice m.a3 m.n3 m.c3, .slice m.a4 m.n4 m.c4, .slice m.a5 m.n5 m.c5, .slice m.a6 m.n6 m.c6, .slice m.a7 m.n7 m.c7, .slice m.a8 m.n8 m.c8] w fun e w' => LawP w e w' := by
  go_enter Try.func3, Try.ntmps3
  go_wp2_with fail
  refine (zzBytes9 m B w hL).mono ?_
  rintro e w0 ⟨⟨r, rfl, _⟩, hw0⟩
  subst hw0
  cases r with
  | false =>
    go_wp2
    go_ret
    exact ⟨rfl, Only.refl _ _⟩
  | true =>
  go_wp2_with fail
  refine (statsSmall10 m B _ hL).mono ?_
  rintro e w0 ⟨⟨r, rfl, hS⟩, hw0⟩
  subst hw0
  cases r with
  | false =>
    clear hS
    go_wp2
    go_ret
    exact ⟨rfl, Only.refl _ _⟩
  | true =>
  replace hS : Small m := hS rfl
  go_wp2_with fail
  refine (aligned11 m B _ hL hS).mono ?_
  rintro e w0 ⟨⟨r, rfl, hA⟩, hw0⟩
  subst hw0
  cases r with
  | false =>
    clear hA
    go_wp2
    go_ret
    exact ⟨rfl, Only.refl _ _⟩
  | true =>
  replace hA : Aligned m := hA rfl
  obtain ⟨w, rfl⟩ : ∃ w, w = w0 := ⟨_, rfl⟩
  have q3 := hS.s3
  have q4 := hS.s4
  have q5 := hS.s5
  have hL0 := hL.up (Only.refl [] w) hB
  have hnn := nil_test 22 9 m.a3 m.n3 m.c3 Try.underlying22
  go_upto_if 63 with fail
  clear hnn
  go_cut [3, 19] from 62 to 70 (fun s t wx => ∃ a c, s = .slice a m.n3 c ∧ Laid wx wx.heap.size ((m).w3 a c) ∧ Only [] w wx)
  case first => as_aux_lemma =>
    cases hs : m.a3.isSome with
    | false =>
      have FIN : Hid (∃ a c, Value.slice m.a3 m.n3 m.c3 = .slice a m.n3 c ∧ Laid w w.heap.size ((m).w3 a c) ∧ Only [] w w) := ⟨_, _, rfl, hL0.with3 _ _ hL0.h3, (Only.refl [] w)⟩
      clear hs hL0
      go_wp2
      go_meet
      case rel => exact FIN.out
    | true =>
      have hmk := run_make_list (P := Try.prog) 22 9 (.string ByteArray.empty) (.string ByteArray.empty) 1 16 m.n3 Try.underlying22 Try.info9 rfl (by omega) .i64 .i64 (by omega) (by omega) w
      obtain ⟨w1, hrun, hE1, O1'⟩ := copied (a := m.a3) (n := m.n3) (c := m.c3) (T := 9) (.string ByteArray.empty) Try.underlying22 Try.size9 hL0.h3 (fun _ => rfl) (Nat.le_refl _)
      generalize w.alloc _ = wA at hmk hrun
      have FIN : Hid (∃ a c, Value.slice (some ⟨w.heap.size, 0, none⟩) m.n3 m.n3 = .slice a m.n3 c ∧ Laid w1 w1.heap.size ((m).w3 a c) ∧ Only [] w w1) := ⟨_, _, rfl, (hL0.up O1' O1'.size).with3 _ _ hE1, O1'⟩
      clear hs hL0 hE1 O1'
      go_wp2
      go_meet
      case rel => exact FIN.out
  case rest =>
  obtain ⟨a3, c3, rfl, hL1, O1⟩ := hcut
  obtain ⟨w3, rfl⟩ : ∃ x, x = wc := ⟨_, rfl⟩
  clear hL0 
  have hnn := nil_test 23 4 m.a4 m.n4 m.c4 Try.underlying23
  go_upto_if 72 with fail
  clear hnn
  go_cut [4, 20] from 71 to 79 (fun s t wx => ∃ a c, s = .slice a m.n4 c ∧ Laid wx wx.heap.size ((m.w3 a3 c3).w4 a c) ∧ Only [] w wx)
  case first => as_aux_lemma =>
    cases hs : m.a4.isSome with
    | false =>
      have FIN : Hid (∃ a c, Value.slice m.a4 m.n4 m.c4 = .slice a m.n4 c ∧ Laid w3 w3.heap.size ((m.w3 a3 c3).w4 a c) ∧ Only [] w w3) := ⟨_, _, rfl, hL1.with4 _ _ hL1.h4, O1⟩
      clear hs hL1
      go_wp2
      go_meet
      case rel => exact FIN.out
    | true =>
      have hmk := run_make_list (P := Try.prog) 23 4 (.bool false) (.bool false) 1 1 m.n4 Try.underlying23 Try.info4 rfl (by omega) .i64 .i64 (by omega) (by omega) w3
      obtain ⟨w1, hrun, hE1, O1'⟩ := copied (a := m.a4) (n := m.n4) (c := m.c4) (T := 4) (.bool false) Try.underlying23 Try.size4 hL1.h4 (fun _ => rfl) (Nat.le_refl _)
      generalize w3.alloc _ = wA at hmk hrun
      have FIN : Hid (∃ a c, Value.slice (some ⟨w3.heap.size, 0, none⟩) m.n4 m.n4 = .slice a m.n4 c ∧ Laid w1 w1.heap.size ((m.w3 a3 c3).w4 a c) ∧ Only [] w w1) := ⟨_, _, rfl, (hL1.up O1' O1'.size).with4 _ _ hE1, (O1.trans O1')⟩
      clear hs hL1 hE1 O1'
      go_wp2
      go_meet
      case rel => exact FIN.out
  case rest =>
  obtain ⟨a4, c4, rfl, hL2, O2⟩ := hcut
  obtain ⟨w4, rfl⟩ : ∃ x, x = wc := ⟨_, rfl⟩
  clear hL1  O1
  have hnn := nil_test 24 38 m.a5 m.n5 m.c5 Try.underlying24
  go_upto_if 81 with fail
  clear hnn
  go_cut [0, 1, 2, 3, 4, 5, 6, 7, 8] from 19 to 293 (fun s0 s1 s2 s3 s4 s5 s6 s7 s8 wx => CopiedP w s0 s1 s2 s3 s4 s5 s6 s7 s8 wx)
  case first => as_aux_lemma =>
    cases hs : m.a5.isSome with
    | false =>
      have FIN : Hid (CopiedP w (.string m.ver) (.string m.hea) (.int .i64 m.st) (.slice a3 m.n3 c3) (.slice a4 m.n4 c4) (.slice m.a5 m.n5 m.c5) (.slice m.a6 m.n6 m.c6) (.slice m.a7 m.n7 m.c7) (.slice m.a8 m.n8 m.c8) w4) := ⟨((m.w3 a3 c3).w4 a4 c4).w5 m.a5 m.c5, hL2.with5 _ _ hL2.h5, ((hS.w3 _ _).w4 _ _).w5 _ _, ((hA.w3 _ _).w4 _ _).w5 _ _, O2, rfl, rfl, rfl, rfl, rfl, rfl, rfl, rfl, rfl⟩
      clear hs hL2
      go_wp2
      go_meet
      case rel => exact FIN.out
    | true =>
      have hmk := run_make_list (P := Try.prog) 24 38 (.int .i64 0) (.agg #[.int .i64 0, .int .i64 0, .int .i64 0, .int .i64 0]) 4 32 m.n5 Try.underlying24 Try.info38 rfl (by omega) .i64 .i64 (by omega) (by omega) w4
      obtain ⟨w1, hrun, hE1, O1'⟩ := copied (a := m.a5) (n := m.n5) (c := m.c5) (T := 38) (.int .i64 0) Try.underlying24 Try.size38 hL2.h5 (fun _ => rfl) (Nat.le_refl _)
      generalize w4.alloc _ = wA at hmk hrun
      have FIN : Hid (CopiedP w (.string m.ver) (.string m.hea) (.int .i64 m.st) (.slice a3 m.n3 c3) (.slice a4 m.n4 c4) (.slice (some ⟨w4.heap.size, 0, none⟩) m.n5 m.n5) (.slice m.a6 m.n6 m.c6) (.slice m.a7 m.n7 m.c7) (.slice m.a8 m.n8 m.c8) w1) := ⟨((m.w3 a3 c3).w4 a4 c4).w5 (some ⟨w4.heap.size, 0, none⟩) m.n5, (hL2.up O1' O1'.size).with5 _ _ hE1, ((hS.w3 _ _).w4 _ _).w5 _ _, ((hA.w3 _ _).w4 _ _).w5 _ _, (O2.trans O1'), rfl, rfl, rfl, rfl, rfl, rfl, rfl, rfl, rfl⟩
      clear hs hL2 hE1 O1'
      go_wp2
      go_meet
      case rel => exact FIN.out
  case rest =>
  clear hL2 O2 hS hA q3 q4 q5 hB hL
  obtain ⟨M, hL, hS, hA, O5, rfl, rfl, rfl, rfl, rfl, rfl, rfl, rfl, rfl⟩ := hcut
  obtain ⟨w5, rfl⟩ : ∃ x, x = wc := ⟨_, rfl⟩
  have q3 := hS.s3
  go_wp2_with fail
  refine (zzStats13 M w5.heap.size w5 hL hS hA (Nat.le_refl _)).mono ?_
  rintro e w6 ⟨tp, v, rfl, O6, hT⟩
  go_wp2_with fail
  refine (zzAdminRows12 M tp v w6 hS hA hT).mono ?_
  rintro e w7 ⟨r, base, rfl, hb, hW, O7⟩
  obtain ⟨ra, rc, rfl, hR⟩ := rowsAt hW
  have L7 := hL.up (O6.trans O7) (O6.trans O7).size
  have O57 := O5.trans (O6.trans O7)
  clear hW hT hb O6 O7 hL O5
  obtain ⟨N, hN⟩ : ∃ N, N = st M M.n3 := ⟨_, rfl⟩
  have hN' : N ≤ 131072 := by rw [hN]; exact st_le' hS hA (Nat.le_refl _)
  have hms : ∀ w : World, (Instr.makeSlice 37 (.int .i64 ((M.n3 : Int) + 1)) (.int .i64 ((M.n3 : Int) + 1))).run Try.prog w = .ok (.slice (some ⟨w.heap.size, 0, none⟩) (M.n3 + 1) (M.n3 + 1)) (w.alloc (.cells (Array.replicate (M.n3 + 1) (.int .i64 0)) 3)) := fun w => by
    have h := run_make_list (P := Try.prog) 37 3 (.int .i64 0) (.int .i64 0) 1 8 (M.n3 + 1) Try.underlying37 Try.info3 rfl (by omega) .i64 .i64 (by omega) (by omega) w
    simpa using h
  have RS := (Row.zeros w7 (M.n3 + 1) (.int .i64 0) 3).ext (fun j _ => (starts_zero M j).symm)
  have OS := Only.alloc [] w7 (.cells (Array.replicate (M.n3 + 1) (.int .i64 0)) 3)
  rw [← hN]
  have HNN : Hid (N = st M M.n3) := hN
  clear hN
  go_wp2
  go_loopw [25] (fun i wr => ∃ k : Nat, k ≤ M.n3 ∧ i = .int .i64 k ∧ Row wr w7.heap.size 3 (M.n3 + 1) (starts M k) ∧ Only [] w7 wr) (fun i _ => M.n3 - (intOf i).toNat)
  case atStart => exact ⟨0, by omega, rfl, RS, OS⟩
  case round =>
    clear RS OS hms
    obtain ⟨k, hk, rfl, RS, OS⟩ := hrel
    by_cases hlt : k < M.n3
    · have hlt6 : k < M.n6 := by have := hA.e6; omega
      obtain ⟨b6, o6, h6, _, c6⟩ := L7.h6 (by omega)
      have i6 : ∀ w0 : World, (Instr.indexAt 25 (.slice M.a6 M.n6 M.c6) (.int .i64 (k : Int))).run Try.prog w0 = .ok (.pointer (some ⟨b6, o6 + k, none⟩)) w0 := fun w0 => run_at1 (P := Try.prog) 25 22 M.a6 M.n6 M.c6 b6 o6 .i64 k Try.underlying25 Try.size22 h6 (by omega) w0
      have d6 := OS.cell (by simp) (c6 k (by omega))
      have s0 : wr.cell? ⟨w7.heap.size, k, none⟩ = some (.int .i64 (st M k)) := (RS.cell (by omega)).trans (by rw [starts, if_pos (Nat.le_refl _)])
      have f1 := RS.frozen (k + 1)
      have bk : st M k ≤ 131072 := st_le' hS hA hk
      have bk1 : st M (k + 1) ≤ 131072 := st_le' hS hA hlt
      have c1 : wr.cell? ⟨w7.heap.size, k + 1, none⟩ = some (starts M k (k + 1)) := RS.cell (by omega)
      have c1' : wr.cell? ⟨w7.heap.size, k + 1, none⟩ = some (.int .i64 0) := by rw [c1, starts, if_neg (by omega)]
      by_cases h60 : M.m6 k = 0
      · as_aux_lemma =>
        have hz : ((M.m6 k : Int) == 0) = true := by simp; omega
        have est : st M (k + 1) = st M k + 1 := by show st M k + _ = _; rw [if_pos h60]
        have RN := (RS.set (k + 1) (.int .i64 ((st M k : Int) + 1))).ext (fun j _ => starts_step M k j (by rw [est]; rfl))
        have ON := OS.set w7.heap.size (k + 1) (.int .i64 ((st M k : Int) + 1)) (.inr (Nat.le_refl _))
        have FIN : Hid (Row _ w7.heap.size 3 (M.n3 + 1) (starts M (k + 1)) ∧ Only [] w7 _) := ⟨RN, ON⟩
        have H60 : Hid (M.m6 k = 0) := h60
        clear RS OS RN ON est h60 c1 c6 HNN hR L7 O57 hS hA h6
        go_wp2
        go_roundw
        case rel => exact ⟨k + 1, by omega, by go_num, FIN.out⟩
        case measure => simp [intOf]; omega
      · as_aux_lemma =>
        have hz : ((M.m6 k : Int) == 0) = false := by simp; omega
        have est : st M (k + 1) = st M k + M.m6 k := by show st M k + _ = _; rw [if_neg h60]
        have RN := (RS.set (k + 1) (.int .i64 ((st M k : Int) + (M.m6 k : Int)))).ext (fun j _ => starts_step M k j (by rw [est]; rfl))
        have ON := OS.set w7.heap.size (k + 1) (.int .i64 ((st M k : Int) + (M.m6 k : Int))) (.inr (Nat.le_refl _))
        have FIN : Hid (Row _ w7.heap.size 3 (M.n3 + 1) (starts M (k + 1)) ∧ Only [] w7 _) := ⟨RN, ON⟩
        have b6' : M.m6 k ≤ 65536 := Small.each hS (by omega)
        clear RS OS RN ON est h60 c1 c6 HNN hR L7 O57 hS hA h6
        go_wp2
        go_roundw
        case rel => exact ⟨k + 1, by omega, by go_num, FIN.out⟩
        case measure => simp [intOf]; omega
    · have hkn : k = M.n3 := by omega
      subst hkn
      have s0 : wr.cell? ⟨w7.heap.size, M.n3, none⟩ = some (.int .i64 N) := (RS.cell (by omega)).trans (by rw [starts, if_pos (Nat.le_refl _), HNN.out])
      have hne : ((N : Int) != (N : Int)) = false := by simp
      have L9 := L7.up OS OS.size
      have O9 := O57.trans OS
      have SC : ∀ i, i ≤ M.n3 → wr.cell? ⟨w7.heap.size, i, none⟩ = some (.int .i64 (st M i)) := fun i hi => by rw [RS.cell (by omega), starts, if_pos hi]
      have HR : 0 < N → ∃ g, ra = some ⟨g, 0, none⟩ ∧ ∀ q u, (allRows M M.n3)[q]? = some u → wr.cell? ⟨g, q, none⟩ = some u := fun h => by
        obtain ⟨g, e, hg⟩ := hR (by have := HNN.out; omega)
        exact ⟨g, e, fun q u hu => OS.cell (by simp) (hg q u hu)⟩
      clear RS OS hR L7 O57 hlt hk
      go_wp2
      obtain ⟨w9, rfl⟩ : ∃ x, x = wr := ⟨_, rfl⟩
      clear s0 hne
      go_loopw [27] (fun i wr => ∃ k : Nat, k ≤ M.n3 ∧ i = .int .i64 k ∧ Only [] w9 wr) (fun i _ => M.n3 - (intOf i).toNat)
      case atStart => exact ⟨0, by omega, rfl, Only.refl _ _⟩
      case round =>
        obtain ⟨k, hk, rfl, O⟩ := hrel
        by_cases hlt : k < M.n3
        · obtain ⟨b3, o3, e3, l3, c3⟩ := L9.h3 (by omega)
          have i3 := run_at1 (P := Try.prog) 22 9 M.a3 M.n3 M.c3 b3 o3 .i64 k Try.underlying22 Try.size9 e3 hlt
          obtain ⟨b4, o4, e4, l4, c4⟩ := L9.h4 (by have := hA.e4; omega)
          have i4 := run_at1 (P := Try.prog) 23 4 M.a4 M.n4 M.c4 b4 o4 .i64 k Try.underlying23 Try.size4 e4 (by have := hA.e4; omega)
          obtain ⟨b5, o5, e5, l5, c5⟩ := L9.h5 (by have := hA.e5; omega)
          have i5 := run_at (P := Try.prog) 24 38 M.a5 M.n5 M.c5 b5 o5 4 .i64 k Try.underlying24 Try.size38 e5 (by have := hA.e5; omega)
          obtain ⟨b6, o6, e6, l6, c6⟩ := L9.h6 (by have := hA.e6; omega)
          have i6 := run_at1 (P := Try.prog) 25 22 M.a6 M.n6 M.c6 b6 o6 .i64 k Try.underlying25 Try.size22 e6 (by have := hA.e6; omega)
          have d3 := O.cell (by simp) (c3 k (by omega))
          have d4 := O.cell (by simp) (c4 k (by have := hA.e4; omega))
          have d6 := O.cell (by simp) (c6 k (by have := hA.e6; omega))
          have d5 : ∀ j, j < 4 → wr.cell? ⟨b5, o5 + k * 4 + j, none⟩ = some (.int .i64 (M.num k j)) := fun j hj => by
            have h := O.cell (by simp) (c5 (k * 4 + j) (by have := hA.e5; omega))
            rw [show o5 + (k * 4 + j) = o5 + k * 4 + j by omega] at h
            rw [h]; simp only [show (k * 4 + j) / 4 = k by omega, show (k * 4 + j) % 4 = j by omega]
          have d50 := d5 0 (by omega)
          have d51 := d5 1 (by omega)
          have d52 := d5 2 (by omega)
          have d53 := d5 3 (by omega)
          simp only [Nat.add_zero] at d50
          have ds := O.cell (by simp) (SC k hk)
          obtain ⟨wT, hwT, ro1, O1, z1⟩ := Row.four wr (M.num k)
          have HT : Hid (wT = _) := hwT
          have Z1 : Hid (wT.heap.size = wr.heap.size + 1) := z1
          clear hwT z1
          have HO : Hid (Only [] wr wT ∧ Row wT wr.heap.size 38 4 (fun j => .int .i64 (M.num k j)) ∧ Only [] w9 wr) := ⟨O1, ro1, O⟩
          have d6T := O1.cell (by simp) d6
          have d3T := O1.cell (by simp) d3
          have d4T := O1.cell (by simp) d4
          have dsT := O1.cell (by simp) ds
          have stN : st M k < N := by
            have h1 : st M (k + 1) ≤ st M M.n3 := st_mono M hlt
            have h2 : st M k + (if M.m6 k = 0 then 1 else M.m6 k) = st M (k + 1) := rfl
            have h3 := HNN.out
            split at h2 <;> omega
          obtain ⟨g, hra, hg⟩ := HR (by omega)
          have HRA : Hid (ra = some ⟨g, 0, none⟩) := hra
          clear hra
          clear c3 c4 c5 c6 d5 e3 e4 e5 e6 SC
          go_upto_region 35 with fail
          rw [← HT.out]
          clear d50 d51 d52 d53 d3 d4 d6 ds i5
          by_cases h60 : M.m6 k = 0
          · as_aux_lemma =>
            have hz : ((M.m6 k : Int) == 0) = true := by simp; omega
            have iR : ∀ w0 : World, (Instr.indexAt 31 (.slice ra N rc) (.int .i64 (st M k : Int))).run Try.prog w0 = .ok (.pointer (some ⟨g, st M k * 8, none⟩)) w0 := fun w0 => by
              have h := run_at (P := Try.prog) 31 40 ra N rc g 0 8 .i64 (st M k) Try.underlying31 Try.size40 HRA.out stN w0
              rwa [Nat.zero_add] at h
            have gr : ∀ q u, (emptyRow M k)[q]? = some u → wT.cell? ⟨g, st M k * 8 + q, none⟩ = some u := fun q u hu => by
              have hq : q < 8 := by have := (List.getElem?_eq_some_iff.1 hu).1; simpa [emptyRow] using this
              exact O1.cell (by simp) (O.cell (by simp) (hg _ _ ((rows_empty M hlt h60 hq).trans hu)))
            have r0 : wT.cell? ⟨g, st M k * 8, none⟩ = some _ := gr 0 _ rfl
            have r1 := gr 1 _ rfl
            have r2 := gr 2 _ rfl
            have r3 := gr 3 _ rfl
            have r4 := gr 4 _ rfl
            have r5 := gr 5 _ rfl
            have r6 := gr 6 _ rfl
            have r7 := gr 7 _ rfl
            have n0 := ro1.cell (i := 0) (by omega)
            have n1 := ro1.cell (i := 1) (by omega)
            obtain ⟨wU, hwU, u0, u1, u2, u3, u4, u5, u6, u7, O2, z2⟩ := made8 wT (.string (M.name k)) (.string { data := #[] }) (.bool (M.pau k)) (.bool false) (.int .i64 (M.num k 0)) (.int .i64 0) (.int .i64 (M.num k 1)) (.int .i64 0) 40
            have x3 := O2.cell (by simp) d3T
            have x4 := O2.cell (by simp) d4T
            have m0 := O2.cell (by simp) n0
            have m1 := O2.cell (by simp) n1
            have HU : Hid (wU = _) := hwU
            have Z2 : Hid (wU.heap.size = wT.heap.size + 1) := z2
            clear hwU z2
            have FIN : Hid (Only [] w9 wU) := (O.trans O1).trans O2
            have H60 : Hid (M.m6 k = 0) := h60
            clear gr h60 hg stN HNN HR L9 O hS hA n0 n1 O1 O2 ro1
            go_upto_region 37 with fail
            rw [← HU.out]
            have hs2 : (M.pau k != M.pau k) = false := by simp
            have hs3 : (M.num k 0 != M.num k 0) = false := by simp
            have hs4 : (M.num k 1 != M.num k 1) = false := by simp
            clear r0 r1 r2 r3 r4 r5 r6 r7 d6T d3T d4T dsT i6 iR HO
            go_quiet (fail)
            go_wp2
            go_roundw
            case rel => exact ⟨k + 1, by omega, by go_num, FIN.out.trans (Only.drewN _ _ _)⟩
            case measure => simp [intOf]; omega
          · have hz : ((M.m6 k : Int) == 0) = false := by simp; omega
            have s6 : M.m6 k ≤ 65536 := Small.each hS (by have := hA.e6; omega)
            have OT : Only [] w9 wT := O.trans O1
            clear ro1 O1
            go_wp2
            go_loopw [30] (fun i wj => ∃ j : Nat, j ≤ M.m6 k ∧ i = .int .i64 j ∧ Only [] wT wj) (fun i _ => M.m6 k - (intOf i).toNat)
            case atStart => exact ⟨0, by omega, rfl, Only.refl _ _⟩
            case round =>
              obtain ⟨wj, rfl⟩ : ∃ wj : World, wj = wr := ⟨_, rfl⟩
              obtain ⟨j, hj, rfl, Oj⟩ := hrel
              have a6 := Oj.cell (by simp) d6T
              by_cases hlt2 : j < M.m6 k
              · as_aux_lemma =>
                have O9j := OT.trans Oj
                obtain ⟨b7, o7, e7, l7, c7⟩ := L9.h7 (by have := hA.e7; omega)
                have i7 := run_at1 (P := Try.prog) 26 23 M.a7 M.n7 M.c7 b7 o7 .i64 k Try.underlying26 Try.size23 e7 (by have := hA.e7; omega)
                obtain ⟨b8, o8, e8, l8, c8⟩ := L9.h8 (by have := hA.e8; omega)
                have i8 := run_at1 (P := Try.prog) 27 42 M.a8 M.n8 M.c8 b8 o8 .i64 k Try.underlying27 Try.size42 e8 (by have := hA.e8; omega)
                obtain ⟨y6, p6, q6, _, k6⟩ := L9.g6 k (by have := hA.e6; omega) (by omega)
                have j6 := run_at1 (P := Try.prog) 22 9 (M.b6 k) (M.m6 k) (M.d6 k) y6 p6 .i64 j Try.underlying22 Try.size9 q6 hlt2
                obtain ⟨y7, p7, q7, _, k7⟩ := L9.g7 k (by have := hA.e7; omega) (by have := hA.i7 k hlt; omega)
                have j7 := run_at1 (P := Try.prog) 23 4 (M.b7 k) (M.m7 k) (M.d7 k) y7 p7 .i64 j Try.underlying23 Try.size4 q7 (by have := hA.i7 k hlt; omega)
                obtain ⟨y8, p8, q8, _, k8⟩ := L9.g8 k (by have := hA.e8; omega) (by have := hA.i8 k hlt; omega)
                have j8 := run_at (P := Try.prog) 42 41 (M.b8 k) (M.m8 k) (M.d8 k) y8 p8 7 .i64 j Try.underlying42 Try.size41 q8 (by have := hA.i8 k hlt; omega)
                have a7 := O9j.cell (by simp) (c7 k (by have := hA.e7; omega))
                have a8 := O9j.cell (by simp) (c8 k (by have := hA.e8; omega))
                have x6 := O9j.cell (by simp) (k6 j (by omega))
                have x7 := O9j.cell (by simp) (k7 j (by have := hA.i7 k hlt; omega))
                have x3 := Oj.cell (by simp) d3T
                have x4 := Oj.cell (by simp) d4T
                have xs := Oj.cell (by simp) dsT
                have d8' : ∀ i, i < 7 → wj.cell? ⟨y8, p8 + j * 7 + i, none⟩ = some (.int .i64 (M.cnum k j i)) := fun i hi => by
                  have h := O9j.cell (by simp) (k8 (j * 7 + i) (by have := hA.i8 k hlt; omega))
                  rw [show p8 + (j * 7 + i) = p8 + j * 7 + i by omega] at h
                  rw [h]; simp only [show (j * 7 + i) / 7 = j by omega, show (j * 7 + i) % 7 = i by omega]
                have t0 := d8' 0 (by omega)
                have t1 := d8' 1 (by omega)
                have t2 := d8' 2 (by omega)
                have t3 := d8' 3 (by omega)
                have t4 := d8' 4 (by omega)
                have t5 := d8' 5 (by omega)
                have t6 := d8' 6 (by omega)
                simp only [Nat.add_zero] at t0
                have stN2 : st M k + j < N := by
                  have h1 : st M (k + 1) ≤ st M M.n3 := st_mono M hlt
                  have h2 : st M k + (if M.m6 k = 0 then 1 else M.m6 k) = st M (k + 1) := rfl
                  have h3 := HNN.out
                  rw [if_neg h60] at h2; omega
                have iR : ∀ w0 : World, (Instr.indexAt 31 (.slice ra N rc) (.int .i64 ((st M k : Int) + (j : Int)))).run Try.prog w0 = .ok (.pointer (some ⟨g, (st M k + j) * 8, none⟩)) w0 := fun w0 => by
                  have h := run_at (P := Try.prog) 31 40 ra N rc g 0 8 .i64 (st M k + j) Try.underlying31 Try.size40 HRA.out stN2 w0
                  rwa [Nat.zero_add, Int.natCast_add] at h
                have bst : st M k ≤ 131072 := st_le' hS hA hk
                obtain ⟨wV, hwV, rv, O4, z4⟩ := newNums wj (M.cnum k j)
                have HV : Hid (wV = _) := hwV
                have Z4 : Hid (wV.heap.size = wj.heap.size + 1) := z4
                have gr : ∀ q u, (chanRow M k j)[q]? = some u → wV.cell? ⟨g, (st M k + j) * 8 + q, none⟩ = some u := fun q u hu => by
                  have hq : q < 8 := by have := (List.getElem?_eq_some_iff.1 hu).1; simpa [chanRow] using this
                  exact O4.cell (by simp) (O9j.cell (by simp) (hg _ _ ((rows_chan M hlt hlt2 hq).trans hu)))
                have r0 : wV.cell? ⟨g, (st M k + j) * 8, none⟩ = some _ := gr 0 _ rfl
                have r1 := gr 1 _ rfl
                have r2 := gr 2 _ rfl
                have r3 := gr 3 _ rfl
                have r4 := gr 4 _ rfl
                have r5 := gr 5 _ rfl
                have r6 := gr 6 _ rfl
                have r7 := gr 7 _ rfl
                have sV := O4.cell (by simp) xs
                have v3 := O4.cell (by simp) x3
                have v4 := O4.cell (by simp) x4
                have v6 := O4.cell (by simp) a6
                have v7 := O4.cell (by simp) a7
                have v9 := O4.cell (by simp) x6
                have v8 := O4.cell (by simp) x7
                have n0 := rv.cell (i := 0) (by omega)
                have n1 := rv.cell (i := 1) (by omega)
                have n2 := rv.cell (i := 2) (by omega)
                have n6 := rv.cell (i := 6) (by omega)
                obtain ⟨wU, hwU, u0, u1, u2, u3, u4, u5, u6, u7, O5, z5⟩ := made8 wV (.string (M.name k)) (.string (M.cname k j)) (.bool (M.pau k)) (.bool (M.cpau k j)) (.int .i64 (M.cnum k j 0)) (.int .i64 (M.cnum k j 1)) (.int .i64 (M.cnum k j 2)) (.int .i64 (M.cnum k j 6)) 40
                have HU : Hid (wU = _) := hwU
                have Z5 : Hid (wU.heap.size = wV.heap.size + 1) := z5
                have g3 := O5.cell (by simp) v3
                have g4 := O5.cell (by simp) v4
                have g6 := O5.cell (by simp) v6
                have g7 := O5.cell (by simp) v7
                have g9 := O5.cell (by simp) v9
                have g8 := O5.cell (by simp) v8
                have m0 := O5.cell (by simp) n0
                have m1 := O5.cell (by simp) n1
                have m2 := O5.cell (by simp) n2
                have m6 := O5.cell (by simp) n6
                have FIN : Hid (Only [] wT wU) := (Oj.trans O4).trans O5
                clear hwV z4 hwU z5 gr rv O4 O5 Oj O9j OT hg stN stN2 HNN HR L9 O hS hA d8' k6 k7 k8 c7 c8 e7 e8 q6 q7 q8 O9 HO d6T d3T d4T dsT
                go_upto_region 45 with fail
                rw [← HV.out]
                clear t0 t1 t2 t3 t4 t5 t6 a6 a7 a8 x6 x7 x3 x4 xs i8 j8
                go_upto_region 46 with fail
                rw [← HU.out]
                clear r0 r1 r2 r3 r4 r5 r6 r7 sV v3 v4 v6 v7 v8 v9 n0 n1 n2 n6 iR
                have hs2 : (M.pau k != M.pau k) = false := by simp
                have hs3 : (M.cpau k j != M.cpau k j) = false := by simp
                clear HRA HV HU HT
                go_quiet (fail)
                go_wp2
                go_roundw
                case rel => first | exact ⟨j + 1, by omega, by go_num, FIN.out.trans (Only.drewN _ _ _)⟩ | ((repeat apply Exists.intro); exact ⟨⟨j + 1, by omega, by go_num, FIN.out.trans (Only.drewN _ _ _)⟩, rfl⟩)
                case measure => simp [intOf]; omega
              · as_aux_lemma =>
                have HK : Hid (Only [] w9 wj) := OT.trans Oj
                clear OT Oj hg stN HNN HR L9 O hS hA O9 HO d3T d4T dsT
                go_wp2
                go_roundw
                case rel => first | exact ⟨k + 1, by omega, by go_num, HK.out⟩ | ((repeat apply Exists.intro); exact ⟨⟨k + 1, by omega, by go_num, HK.out⟩, rfl⟩)
                case measure => simp [intOf]; omega
        · as_aux_lemma =>
          have hkn : k = M.n3 := by omega
          subst hkn
          have FIN : Hid (Only [] w wr) := O9.trans O
          clear O9 O HR L9 SC
          go_wp2
          go_ret
          exact ⟨rfl, FIN.out⟩
end Go.Proofs.Qxb6602566a
