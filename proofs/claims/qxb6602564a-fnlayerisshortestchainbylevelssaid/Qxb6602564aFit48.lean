/-
  THE GUARDS OF THE LAYER LAWS: zzBytes, mastersWellFormed, mastersFit.
-/
import Derived.Test.Qxb6602564aMs
import Derived.Deep.CutRange
namespace Go.Proofs.Qxb6602564a
open Go.RowKit
set_option linter.unusedVariables false

set_option maxRecDepth 100000 in
set_option maxHeartbeats 2000000 in
theorem zzBytes37 (m : M) (x0 x1 x2 x3 x4 x5 x6 x7 : Int) (B : Nat) (w : World) (hB : B ≤ w.heap.size) (hL : Laid w B m) :
    Calls Try.prog 37 #[.agg #[.slice m.a0 m.n0 m.c0, .slice m.a1 m.n1 m.c1, .slice m.a2 m.n2 m.c2, .slice m.a3 m.n3 m.c3, .slice m.a4 m.n4 m.c4, .slice m.a5 m.n5 m.c5, .slice m.a6 m.n6 m.c6, .int .i64 m.k, .slice m.a8 m.n8 m.c8, .slice m.a9 m.n9 m.c9, .slice m.a10 m.n10 m.c10, .slice m.a11 m.n11 m.c11], .int .i64 x0, .int .i64 x1, .int .i64 x2, .int .i64 x3, .int .i64 x4, .int .i64 x5, .int .i64 x6, .int .i64 x7] w fun e w' => RetB e (fun _ => True) ∧ Below w.heap.size w w' := by
  have hb0 : Below w.heap.size w (w.alloc (.cells #[.slice m.a0 m.n0 m.c0, .slice m.a1 m.n1 m.c1, .slice m.a2 m.n2 m.c2, .slice m.a3 m.n3 m.c3, .slice m.a4 m.n4 m.c4, .slice m.a5 m.n5 m.c5, .slice m.a6 m.n6 m.c6, .int .i64 m.k, .slice m.a8 m.n8 m.c8, .slice m.a9 m.n9 m.c9, .slice m.a10 m.n10 m.c10, .slice m.a11 m.n11 m.c11] 37)) := (Below.refl _ _).alloc (Nat.le_refl _) _
  have h8 := (hL.keep (hb0.mono hB)).h8
  have zu := hL.zu
  have z0 := hL.z0
  have z1 := hL.z1
  have z2 := hL.z2
  have z3 := hL.z3
  have z4 := hL.z4
  have z5 := hL.z5
  have z6 := hL.z6
  have z8 := hL.z8
  have z9 := hL.z9
  have z10 := hL.z10
  have z11 := hL.z11
  clear hL
  go_enter Try.func37, Try.ntmps37
  go_wp2
  all_goals first | (go_ret; exact ⟨⟨_, rfl, trivial⟩, hb0⟩) | skip
  go_loop [19, 20] (fun t i => ∃ (k : Nat) (s : Int), k ≤ m.n8 ∧ i = .int .i64 k ∧ t = .int .i64 s ∧ 0 ≤ s ∧ s ≤ 1048576) (fun _ i => m.n8 - (intOf i).toNat)
  case atStart => exact ⟨0, _, by omega, rfl, rfl, by omega, by omega⟩
  case round =>
    obtain ⟨k, s, hk, rfl, rfl, hs0, hs1⟩ := hrel
    by_cases hlt : k < m.n8
    · obtain ⟨b, off, e, hbB, hc⟩ := h8 (by omega)
      have hix := run_atN (P := Try.prog) 35 34 m.a8 m.n8 m.c8 b off .i64 k Try.underlying35 Try.size34 e hlt
      have ck := hc k hlt
      have zk := zu k hlt
      clear hc e h8 zu
      go_wp2
      all_goals first | (go_ret; exact ⟨⟨_, rfl, trivial⟩, hb0⟩) | skip
      go_round
      case rel => exact ⟨k + 1, _, by omega, by go_num, rfl, by omega, by omega⟩
      case measure => simp [intOf]; omega
    · clear h8 zu
      go_wp2
      all_goals (go_ret; exact ⟨⟨_, rfl, trivial⟩, hb0⟩)

theorem quo_in (a b : Nat) (ha : a ≤ 262144) : wrap64 ((a : Int) / (b : Int)) = ((a / b : Nat) : Int) := by
  have h1 : a / b ≤ a := Nat.div_le_self a b
  have e : (a : Int) / (b : Int) = ((a / b : Nat) : Int) := (Int.natCast_ediv a b).symm
  rw [e]
  generalize a / b = c at *
  exact IntWalk.wrap64_in _ (by omega)
theorem quo_eq (a b : Nat) (k : Int) (ha : a ≤ 262144) (hb : 0 < b) (h : ((a / b : Nat) : Int) = k) : (wrap64 ((a : Int) / (b : Int)) != k) = false := by
  rw [quo_in a b ha, h]; simp
theorem quo_ne (a b : Nat) (k : Int) (ha : a ≤ 262144) (hb : 0 < b) (h : ¬ ((a / b : Nat) : Int) = k) : (wrap64 ((a : Int) / (b : Int)) != k) = true := by
  rw [quo_in a b ha]; exact bne_iff_ne.2 h

/-- What the first loop of mastersWellFormed finds of unit y. -/
def WFx (m : M) (y : Nat) : Prop := (0 ≤ m.f1 y ∧ m.f1 y < m.n9) ∧ (0 ≤ m.f2 y ∧ m.f2 y < m.n10 ∧ m.f2 y < m.n11) ∧ 0 ≤ m.f5 y ∧ m.f5 y ≤ m.f5 (y + 1) ∧ m.f5 (y + 1) ≤ m.n4
def AllX (m : M) (k : Nat) : Prop := ∀ y, y < k → WFx m y
def AllH (m : M) (k : Nat) : Prop := ∀ i, i < k → 0 ≤ m.f4 i ∧ m.f4 i < m.n0
def AllR (m : M) (k : Nat) : Prop := ∀ i, i < k → 0 ≤ m.f6 i ∧ m.f6 i < m.n1
def AllU (m : M) (k : Nat) : Prop := ∀ n, n < k → ∀ i, i < m.un n → 0 ≤ m.uf n i ∧ m.uf n i < m.n1
def AllV (m : M) (n k : Nat) : Prop := ∀ i, i < k → 0 ≤ m.uf n i ∧ m.uf n i < m.n1
def WfP (m : M) (r : Bool) : Prop := r = true → WF m
theorem wf_no {m : M} {w w' : World} (h : Below w.heap.size w w') : RetB (.returned (.bool false)) (WfP m) ∧ Below w.heap.size w w' := ⟨⟨_, rfl, fun h => by cases h⟩, h⟩

set_option maxRecDepth 100000 in
set_option maxHeartbeats 4000000 in
theorem wellFormed48 (m : M) (B : Nat) (w : World) (hB : B ≤ w.heap.size) (hL : Laid w B m) (hS : Small m) :
    Calls Try.prog 48 #[.agg #[.slice m.a0 m.n0 m.c0, .slice m.a1 m.n1 m.c1, .slice m.a2 m.n2 m.c2, .slice m.a3 m.n3 m.c3, .slice m.a4 m.n4 m.c4, .slice m.a5 m.n5 m.c5, .slice m.a6 m.n6 m.c6, .int .i64 m.k, .slice m.a8 m.n8 m.c8, .slice m.a9 m.n9 m.c9, .slice m.a10 m.n10 m.c10, .slice m.a11 m.n11 m.c11]] w fun e w' => RetB e (WfP m) ∧ Below w.heap.size w w' := by
  have hb0 : Below w.heap.size w (w.alloc (.cells #[.slice m.a0 m.n0 m.c0, .slice m.a1 m.n1 m.c1, .slice m.a2 m.n2 m.c2, .slice m.a3 m.n3 m.c3, .slice m.a4 m.n4 m.c4, .slice m.a5 m.n5 m.c5, .slice m.a6 m.n6 m.c6, .int .i64 m.k, .slice m.a8 m.n8 m.c8, .slice m.a9 m.n9 m.c9, .slice m.a10 m.n10 m.c10, .slice m.a11 m.n11 m.c11] 37)) := (Below.refl _ _).alloc (Nat.le_refl _) _
  have hbD : ∀ q, Below w.heap.size w ((w.alloc (.cells #[.slice m.a0 m.n0 m.c0, .slice m.a1 m.n1 m.c1, .slice m.a2 m.n2 m.c2, .slice m.a3 m.n3 m.c3, .slice m.a4 m.n4 m.c4, .slice m.a5 m.n5 m.c5, .slice m.a6 m.n6 m.c6, .int .i64 m.k, .slice m.a8 m.n8 m.c8, .slice m.a9 m.n9 m.c9, .slice m.a10 m.n10 m.c10, .slice m.a11 m.n11 m.c11] 37)).drewN q) := fun q => ⟨hb0.os, hb0.tape, hb0.output, hb0.size, hb0.block⟩
  have hL1 := hL.keep (hb0.mono hB)
  obtain ⟨s0, s1, s2, s3, s4, s5, s6, s8, s9, s10, s11, su⟩ := hS
  clear hL
  by_cases hE : m.n2 = m.n1 ∧ m.n3 = m.n1 ∧ m.n5 = m.n1 + 1 ∧ m.n8 = m.n9
  · obtain ⟨e2, e3, e5, e8⟩ := hE
    have t2 : ((m.n2 : Int) != (m.n1 : Int)) = false := by simp; omega
    have t3 : ((m.n3 : Int) != (m.n1 : Int)) = false := by simp; omega
    have t5 : ((m.n5 : Int) != (m.n1 : Int) + 1) = false := by simp; omega
    have t8 : ((m.n8 : Int) != (m.n9 : Int)) = false := by simp; omega
    have HE : Hid (m.n2 = m.n1 ∧ m.n3 = m.n1 ∧ m.n5 = m.n1 + 1 ∧ m.n8 = m.n9) := ⟨e2, e3, e5, e8⟩
    clear e2 e3 e5 e8
    go_enter Try.func48, Try.ntmps48
    go_upto_if 55 with fail
    go_cut [] from 18 to 71 (fun wc => (∃ q, wc = (w.alloc (.cells #[.slice m.a0 m.n0 m.c0, .slice m.a1 m.n1 m.c1, .slice m.a2 m.n2 m.c2, .slice m.a3 m.n3 m.c3, .slice m.a4 m.n4 m.c4, .slice m.a5 m.n5 m.c5, .slice m.a6 m.n6 m.c6, .int .i64 m.k, .slice m.a8 m.n8 m.c8, .slice m.a9 m.n9 m.c9, .slice m.a10 m.n10 m.c10, .slice m.a11 m.n11 m.c11] 37)).drewN q) ∧ Hid (0 < m.n0 → m.n6 % m.n0 = 0 ∧ ((m.n6 / m.n0 : Nat) : Int) = m.k))
    case first =>
      clear hL1
      by_cases hP : 0 < m.n0
      · have hP1 : (1 : Int) ≤ (m.n0 : Int) := by omega
        by_cases hmod : m.n6 % m.n0 = 0
        · have tm : (((m.n6 : Int) % (m.n0 : Int)) != 0) = false := by
            have : ((m.n6 % m.n0 : Nat) : Int) = 0 := by omega
            simp; omega
          by_cases hk : ((m.n6 / m.n0 : Nat) : Int) = m.k
          · have tk := quo_eq (m.n6) (m.n0) m.k s6 hP hk
            have EK : Hid (0 < m.n0 → m.n6 % m.n0 = 0 ∧ ((m.n6 / m.n0 : Nat) : Int) = m.k) := fun _ => ⟨hmod, hk⟩
            clear hmod hk
            go_wp2
            go_quiet (fail)
            go_wp2
            go_meet
            case rel => exact ⟨⟨_, rfl⟩, EK⟩
          · have tk := quo_ne (m.n6) (m.n0) m.k s6 hP hk
            clear hmod hk
            go_wp2
            go_quiet (fail)
            go_wp2
            go_ret
            exact wf_no (hbD _)
        · have tm : (((m.n6 : Int) % (m.n0 : Int)) != 0) = true := by
            have : ((m.n6 % m.n0 : Nat) : Int) ≠ 0 := by omega
            simp; omega
          clear hmod
          go_wp2
          go_quiet (fail)
          go_wp2
          go_ret
          exact wf_no (hbD _)
      · have EK : Hid (0 < m.n0 → m.n6 % m.n0 = 0 ∧ ((m.n6 / m.n0 : Nat) : Int) = m.k) := fun h => absurd h hP
        go_wp2
        go_meet
        case rel => exact ⟨⟨0, rfl⟩, EK⟩
    case rest =>
      obtain ⟨⟨qd, rfl⟩, EK⟩ := hcut
      go_wp2
      go_loop [6] (fun i => ∃ (k : Nat), k ≤ m.n1 ∧ i = .int .i64 k ∧ AllX m k) (fun i => m.n1 - (intOf i).toNat)
      case atStart => exact ⟨0, by omega, rfl, fun y hy => by omega⟩
      case round =>
        obtain ⟨k, hk1, rfl, hX⟩ := hrel
        by_cases hlt : k < m.n1
        · obtain ⟨b1, o1, e1, _, c1⟩ := hL1.h1 (by omega)
          obtain ⟨b2, o2, e2, _, c2⟩ := hL1.h2 (by have := HE.out; omega)
          obtain ⟨b5, o5, e5, _, c5⟩ := hL1.h5 (by have := HE.out; omega)
          have i1 := run_atN (P := Try.prog) 34 21 m.a1 m.n1 m.c1 b1 o1 .i64 k Try.underlying34 Try.size21 e1 hlt
          have i2 := run_atN (P := Try.prog) 34 21 m.a2 m.n2 m.c2 b2 o2 .i64 k Try.underlying34 Try.size21 e2 (by have := HE.out; omega)
          have i5 := run_atN (P := Try.prog) 34 21 m.a5 m.n5 m.c5 b5 o5 .i64 k Try.underlying34 Try.size21 e5 (by have := HE.out; omega)
          have i6 := run_atN (P := Try.prog) 34 21 m.a5 m.n5 m.c5 b5 o5 .i64 (k + 1) Try.underlying34 Try.size21 e5 (by have := HE.out; omega)
          rw [show ((k + 1 : Nat) : Int) = (k : Int) + 1 by omega] at i6
          replace c1 := c1 k (by omega)
          replace c2 := c2 k (by have := HE.out; omega)
          have c6 := c5 (k + 1) (by have := HE.out; omega)
          replace c5 := c5 k (by have := HE.out; omega)
          have q1 := hL1.q1 k hlt
          have q2 := hL1.q2 k (by have := HE.out; omega)
          have q6 := hL1.q5 (k + 1) (by have := HE.out; omega)
          have q5 := hL1.q5 k (by have := HE.out; omega)
          have step : (0 ≤ m.f1 k ∧ m.f1 k < m.n9) → (0 ≤ m.f2 k ∧ m.f2 k < m.n10 ∧ m.f2 k < m.n11) → 0 ≤ m.f5 k → m.f5 k ≤ m.f5 (k + 1) → m.f5 (k + 1) ≤ m.n4 → AllX m (k + 1) := fun h1 h2 h3 h4 h5 y hy => by
            by_cases e : y = k
            · subst e; exact ⟨h1, h2, h3, h4, h5⟩
            · exact hX y (by omega)
          have HS : Hid ((0 ≤ m.f1 k ∧ m.f1 k < m.n9) → (0 ≤ m.f2 k ∧ m.f2 k < m.n10 ∧ m.f2 k < m.n11) → 0 ≤ m.f5 k → m.f5 k ≤ m.f5 (k + 1) → m.f5 (k + 1) ≤ m.n4 → AllX m (k + 1)) := step
          clear step e1 e2 e5 hL1 hX
          generalize m.f1 k = v1 at *
          generalize m.f2 k = v2 at *
          generalize m.f5 k = v5 at *
          generalize m.f5 (k + 1) = v6 at *
          go_wp2
          all_goals first | (go_ret; exact wf_no (hbD _)) | skip
          go_round
          case rel => exact ⟨k + 1, by omega, by go_num, HS.out (by omega) (by omega) (by omega) (by omega) (by omega)⟩
          case measure => simp [intOf]; omega
        · have ek : m.n1 = k := by omega
          have HK : Hid (AllX m m.n1) := by rw [ek]; exact hX
          clear hX ek
          go_wp2
          go_loop [11] (fun i => ∃ (k : Nat), k ≤ m.n4 ∧ i = .int .i64 k ∧ AllH m k) (fun i => m.n4 - (intOf i).toNat)
          case atStart => exact ⟨0, by omega, rfl, fun y hy => by omega⟩
          case round =>
            obtain ⟨k, hk1, rfl, hX⟩ := hrel
            by_cases hlt : k < m.n4
            · obtain ⟨b1, o1, e1, _, c1⟩ := hL1.h4 (by omega)
              have i1 := run_atN (P := Try.prog) 34 21 m.a4 m.n4 m.c4 b1 o1 .i64 k Try.underlying34 Try.size21 e1 hlt
              replace c1 := c1 k (by omega)
              have q1 := hL1.q4 k hlt
              have HS : Hid ((0 ≤ m.f4 k ∧ m.f4 k < m.n0) → AllH m (k + 1)) := fun h1 y hy => by
                by_cases e : y = k
                · subst e; exact h1
                · exact hX y (by omega)
              clear e1 hL1 hX
              generalize m.f4 k = v1 at *
              go_wp2
              all_goals first | (go_ret; exact wf_no (hbD _)) | skip
              go_round
              case rel => exact ⟨k + 1, by omega, by go_num, HS.out (by omega)⟩
              case measure => simp [intOf]; omega
            · have ek : m.n4 = k := by omega
              have HH : Hid (AllH m m.n4) := by rw [ek]; exact hX
              clear hX ek
              go_wp2
              go_loop [13] (fun i => ∃ (k : Nat), k ≤ m.n6 ∧ i = .int .i64 k ∧ AllR m k) (fun i => m.n6 - (intOf i).toNat)
              case atStart => exact ⟨0, by omega, rfl, fun y hy => by omega⟩
              case round =>
                obtain ⟨k, hk1, rfl, hX⟩ := hrel
                by_cases hlt : k < m.n6
                · obtain ⟨b1, o1, e1, _, c1⟩ := hL1.h6 (by omega)
                  have i1 := run_atN (P := Try.prog) 34 21 m.a6 m.n6 m.c6 b1 o1 .i64 k Try.underlying34 Try.size21 e1 hlt
                  replace c1 := c1 k (by omega)
                  have q1 := hL1.q6 k hlt
                  have HS : Hid ((0 ≤ m.f6 k ∧ m.f6 k < m.n1) → AllR m (k + 1)) := fun h1 y hy => by
                    by_cases e : y = k
                    · subst e; exact h1
                    · exact hX y (by omega)
                  clear e1 hL1 hX
                  generalize m.f6 k = v1 at *
                  go_wp2
                  all_goals first | (go_ret; exact wf_no (hbD _)) | skip
                  go_round
                  case rel => exact ⟨k + 1, by omega, by go_num, HS.out (by omega)⟩
                  case measure => simp [intOf]; omega
                · have ek : m.n6 = k := by omega
                  have HR : Hid (AllR m m.n6) := by rw [ek]; exact hX
                  clear hX ek
                  go_wp2
                  go_loop [15] (fun i => ∃ (k : Nat), k ≤ m.n9 ∧ i = .int .i64 k ∧ AllU m k) (fun i => m.n9 - (intOf i).toNat)
                  case atStart => exact ⟨0, by omega, rfl, fun y hy => by omega⟩
                  case round =>
                    obtain ⟨n, hk1, rfl, hX⟩ := hrel
                    by_cases hlt : n < m.n9
                    · obtain ⟨b8, o8, e8, _, c8⟩ := hL1.h8 (by have := HE.out; omega)
                      have i8 := run_atN (P := Try.prog) 35 34 m.a8 m.n8 m.c8 b8 o8 .i64 n Try.underlying35 Try.size34 e8 (by have := HE.out; omega)
                      replace c8 := c8 n (by have := HE.out; omega)
                      have hun := hL1.hu n (by have := HE.out; omega)
                      have qun := hL1.qu n (by have := HE.out; omega)
                      have zun := hL1.zu n (by have := HE.out; omega)
                      clear e8 hL1
                      go_wp2
                      go_loop [16] (fun i => ∃ (k : Nat), k ≤ m.un n ∧ i = .int .i64 k ∧ AllV m n k) (fun i => m.un n - (intOf i).toNat)
                      case atStart => exact ⟨0, by omega, rfl, fun y hy => by omega⟩
                      case round =>
                        obtain ⟨k, hk2, rfl, hV⟩ := hrel
                        by_cases hlt2 : k < m.un n
                        · obtain ⟨b1, o1, e1, _, c1⟩ := hun (by omega)
                          have i1 := run_atN (P := Try.prog) 34 21 (m.ua n) (m.un n) (m.uc n) b1 o1 .i64 k Try.underlying34 Try.size21 e1 hlt2
                          replace c1 := c1 k hlt2
                          have q1 := qun k hlt2
                          have HS : Hid ((0 ≤ m.uf n k ∧ m.uf n k < m.n1) → AllV m n (k + 1)) := fun h1 y hy => by
                            by_cases e : y = k
                            · subst e; exact h1
                            · exact hV y (by omega)
                          clear e1 hun qun hX hV
                          generalize m.uf n k = v1 at *
                          go_wp2
                          all_goals first | (go_ret; exact wf_no (hbD _)) | skip
                          go_round
                          case rel => exact ⟨k + 1, by omega, by go_num, HS.out (by omega)⟩
                          case measure => simp [intOf]; omega
                        · have hX2 : AllU m (n + 1) := fun n' hn' i hi => by
                            by_cases e : n' = n
                            · subst e; exact hV i (by omega)
                            · exact hX n' (by omega) i hi
                          clear hX hV hun qun
                          go_wp2
                          go_round
                          case rel => exact ⟨n + 1, by omega, by go_num, hX2⟩
                          case measure => simp [intOf]; omega
                    · have ek : m.n9 = n := by omega
                      have fin : WF m := by
                        obtain ⟨e2, e3, e5, e8⟩ := HE.out
                        exact ⟨e2, e3, e5, e8, EK.out, fun x hx => (HK.out x hx).1, fun x hx => (HK.out x hx).2.1, fun x hx => (HK.out x hx).2.2, HH.out, HR.out, by rw [ek]; exact hX⟩
                      clear hX ek hL1
                      go_wp2
                      go_ret
                      exact ⟨⟨_, rfl, fun _ => fin⟩, hbD _⟩
  · clear hL1
    go_enter Try.func48, Try.ntmps48
    go_wp2
    all_goals first | (go_ret; exact wf_no hb0) | (exfalso; omega)
end Go.Proofs.Qxb6602564a
