/-
  THE GUARDS OF THE adminRows LAW: zzStatsSmall, zzStatsAligned.
-/
import Derived.Test.Qxb6602566aAd
namespace Go.Proofs.Qxb6602566a
open Go.RowKit
set_option linter.unusedVariables false

/-- How many channels the first k topics have. -/
def sum6 (m : A) : Nat → Nat
  | 0 => 0
  | k + 1 => sum6 m k + m.m6 k
structure Small (m : A) : Prop where
  s3 : m.n3 ≤ 65536
  s4 : m.n4 ≤ 65536
  s5 : m.n5 ≤ 65536
  s6 : m.n6 ≤ 65536
  s7 : m.n7 ≤ 65536
  s8 : m.n8 ≤ 65536
  su : sum6 m m.n6 ≤ 65536
def SmallP (m : A) (r : Bool) : Prop := r = true → Small m
theorem small_no {m : A} {w : World} : RetB (.returned (.bool false)) (SmallP m) ∧ w = w := ⟨⟨_, rfl, fun h => by cases h⟩, rfl⟩

set_option maxRecDepth 100000 in
set_option maxHeartbeats 4000000 in
theorem statsSmall10 (m : A) (B : Nat) (w : World) (hL : Laid w B m) :
    Calls Try.prog 10 #[.string m.ver, .string m.hea, .slice m.a3 m.n3 m.c3, .slice m.a4 m.n4 m.c4, .slice m.a5 m.n5 m.c5, .slice m.a6 m.n6 m.c6, .slice m.a7 m.n7 m.c7, .slice m.a8 m.n8 m.c8] w fun e w' => RetB e (SmallP m) ∧ w' = w := by
  have zv := hL.zv
  have zh := hL.zh
  have z3 := hL.z3
  have z4 := hL.z4
  have z5 := hL.z5
  have z6 := hL.z6
  have z7 := hL.z7
  have z8 := hL.z8
  by_cases hbig : m.n3 ≤ 65536 ∧ m.n4 ≤ 65536 ∧ m.n5 ≤ 65536 ∧ m.n6 ≤ 65536 ∧ m.n7 ≤ 65536 ∧ m.n8 ≤ 65536
  · obtain ⟨q3, q4, q5, q6, q7, q8⟩ := hbig
    go_enter Try.func10, Try.ntmps10
    go_wp2
    all_goals first | (go_ret; exact small_no) | skip
    go_loop [17, 18] (fun t i => ∃ (k : Nat) (s : Int), k ≤ m.n3 ∧ i = .int .i64 k ∧ t = .int .i64 s ∧ 0 ≤ s ∧ s ≤ 1048576) (fun _ i => m.n3 - (intOf i).toNat)
    case atStart => exact ⟨0, _, by omega, rfl, rfl, by omega, by omega⟩
    case round =>
      obtain ⟨k, s, hk, rfl, rfl, hs0, hs1⟩ := hrel
      by_cases hlt : k < m.n3
      · obtain ⟨b, off, e, _, hc⟩ := hL.h3 (by omega)
        have hix := run_at1 (P := Try.prog) 22 9 m.a3 m.n3 m.c3 b off .i64 k Try.underlying22 Try.size9 e (by omega)
        have ck := hc k (by omega)
        clear hc e
        have zk := hL.y3 k hlt
        clear hL
        go_wp2
        all_goals first | (go_ret; exact small_no) | skip
        go_round
        case rel => exact ⟨k + 1, _, by omega, by go_num, rfl, by omega, by omega⟩
        case measure => simp [intOf]; omega
      · go_wp2
        all_goals first | (go_ret; exact small_no) | skip
        go_loop [17, 19] (fun t i => ∃ (k : Nat) (s : Int), k ≤ m.n6 ∧ i = .int .i64 k ∧ t = .int .i64 s ∧ 16 * (sum6 m k : Int) ≤ s ∧ s ≤ 1048576) (fun _ i => m.n6 - (intOf i).toNat)
        case atStart => exact ⟨0, _, by omega, rfl, rfl, by simp [sum6]; omega, by omega⟩
        case round =>
          obtain ⟨k, s, hk, rfl, rfl, hs0, hs1⟩ := hrel
          have hs00 : (0 : Int) ≤ s := by omega
          by_cases hlt : k < m.n6
          · obtain ⟨b, off, e, _, hc⟩ := hL.h6 (by omega)
            have hix := run_at1 (P := Try.prog) 25 22 m.a6 m.n6 m.c6 b off .i64 k Try.underlying25 Try.size22 e (by omega)
            have ck := hc k (by omega)
            clear hc e
            have zk := hL.y6 k hlt
            have g6 := hL.g6 k hlt
            have x6 := hL.x6 k hlt
            have hsum : Hid ((sum6 m (k + 1) : Int) = sum6 m k + m.m6 k) := by show ((sum6 m k + m.m6 k : Nat) : Int) = _; omega
            clear hL
            go_wp2
            all_goals first | (go_ret; exact small_no) | skip
            go_loop [17, 20] (fun t i => ∃ (j : Nat) (s : Int), j ≤ m.m6 k ∧ i = .int .i64 j ∧ t = .int .i64 s ∧ 16 * (sum6 m (k + 1) : Int) ≤ s ∧ s ≤ 1048576) (fun _ i => m.m6 k - (intOf i).toNat)
            case atStart => exact ⟨0, _, by omega, rfl, rfl, by have := hsum.out; omega, by omega⟩
            case round =>
              obtain ⟨j, s2, hj, rfl, rfl, hs20, hs21⟩ := hrel
              have hsp : (0 : Int) ≤ (sum6 m (k + 1) : Int) := by omega
              by_cases hlt2 : j < m.m6 k
              · obtain ⟨b2, off2, e2, _, hc2⟩ := g6 (by omega)
                have hix2 := run_at1 (P := Try.prog) 22 9 (m.b6 k) (m.m6 k) (m.d6 k) b2 off2 .i64 j Try.underlying22 Try.size9 e2 hlt2
                have cj := hc2 j (by omega)
                have zj := x6 j hlt2
                clear hc2 e2 g6 x6
                go_wp2
                all_goals first | (go_ret; exact small_no) | skip
                go_round
                case rel => exact ⟨j + 1, _, by omega, by go_num, rfl, by omega, by omega⟩
                case measure => simp [intOf]; omega
              · clear g6 x6
                go_wp2
                go_round
                case rel => exact ⟨k + 1, _, by omega, by go_num, rfl, by omega, by omega⟩
                case measure => simp [intOf]; omega
          · have FIN : Hid (Small m) := by
              have ek : m.n6 = k := by omega
              refine ⟨q3, q4, q5, q6, q7, q8, ?_⟩
              rw [ek]; omega
            go_wp2
            all_goals first | (go_ret; exact small_no) | skip
            go_loop [17, 21] (fun t i => ∃ (k : Nat) (s : Int), k ≤ m.n7 ∧ i = .int .i64 k ∧ t = .int .i64 s ∧ 0 ≤ s ∧ s ≤ 1048576) (fun _ i => m.n7 - (intOf i).toNat)
            case atStart => exact ⟨0, _, by omega, rfl, rfl, by omega, by omega⟩
            case round =>
              obtain ⟨k, s, hk, rfl, rfl, hs0, hs1⟩ := hrel
              by_cases hlt : k < m.n7
              · obtain ⟨b, off, e, _, hc⟩ := hL.h7 (by omega)
                have hix := run_at1 (P := Try.prog) 26 23 m.a7 m.n7 m.c7 b off .i64 k Try.underlying26 Try.size23 e (by omega)
                have ck := hc k (by omega)
                clear hc e
                have zk := hL.y7 k hlt
                clear hL
                go_wp2
                all_goals first | (go_ret; exact small_no) | skip
                go_round
                case rel => exact ⟨k + 1, _, by omega, by go_num, rfl, by omega, by omega⟩
                case measure => simp [intOf]; omega
              · go_wp2
                all_goals first | (go_ret; exact small_no) | skip
                go_loop [17, 22] (fun t i => ∃ (k : Nat) (s : Int), k ≤ m.n8 ∧ i = .int .i64 k ∧ t = .int .i64 s ∧ 0 ≤ s ∧ s ≤ 1048576) (fun _ i => m.n8 - (intOf i).toNat)
                case atStart => exact ⟨0, _, by omega, rfl, rfl, by omega, by omega⟩
                case round =>
                  obtain ⟨k, s, hk, rfl, rfl, hs0, hs1⟩ := hrel
                  by_cases hlt : k < m.n8
                  · obtain ⟨b, off, e, _, hc⟩ := hL.h8 (by omega)
                    have hix := run_at1 (P := Try.prog) 27 42 m.a8 m.n8 m.c8 b off .i64 k Try.underlying27 Try.size42 e (by omega)
                    have ck := hc k (by omega)
                    clear hc e
                    have zk := hL.y8 k hlt
                    clear hL
                    go_wp2
                    all_goals first | (go_ret; exact small_no) | skip
                    go_round
                    case rel => exact ⟨k + 1, _, by omega, by go_num, rfl, by omega, by omega⟩
                    case measure => simp [intOf]; omega
                  · clear hL
                    go_wp2
                    all_goals (go_ret; exact ⟨⟨_, rfl, fun _ => FIN.out⟩, rfl⟩)
  · clear hL
    go_enter Try.func10, Try.ntmps10
    go_wp2
    all_goals first | (go_ret; exact small_no) | (exfalso; omega)
end Go.Proofs.Qxb6602566a
