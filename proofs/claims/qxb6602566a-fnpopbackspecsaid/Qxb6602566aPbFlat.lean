/-
  zzFlat: the blocks, end to end.
-/
import Derived.Test.Qxb6602566aPb
namespace Go.Proofs.Qxb6602566a
open Go.RowKit
set_option linter.unusedVariables false

theorem run_make_room {P : Program} (t e : TypeId) (zv : Value) (size bytes n c : Nat) (ht : P.underlying t = some (.slice e)) (hinfo : (P.info? e).map (fun i => (i.zero, i.size, i.bytes)) = some (some zv, size, bytes))
    (kl kc : IntKind) (hnc : n ≤ c) (hb : bytes * c ≤ 281474976710656) (h63 : c ≤ 9223372036854775807) (w : World) :
    (Instr.makeSlice t (.int kl (n : Int)) (.int kc (c : Int))).run P w = .ok (.slice (some ⟨w.heap.size, 0, none⟩) n c) (w.alloc (.cells (madeCells zv.cells (c * size)) e)) := by
  obtain ⟨i, hi, hz0, hz1, hz2⟩ := info_parts hinfo
  have h := run_make (P := P) w t e i zv ht hi hz0 kl kc n c (by omega) (by omega) (by rw [hz2, ← Int.natCast_mul]; omega) (by omega)
  rw [hz1] at h
  simpa using h
def FlatP (m : Nat → Nat) (x : Nat → Nat → Nat → Int) (n : Nat) (w : World) (e : Ending) (w' : World) : Prop :=
  ∃ r, e = .returned r ∧ w'.ownsRow w.heap.size 60 5 r (tot m n) (flat m x n) ∧ Only [] w w'
set_option maxRecDepth 100000 in
set_option maxHeartbeats 4000000 in
theorem zzFlat20 (p : Bs) (B : Nat) (w : World) (hL : LaidB w B p) (hn : p.n ≤ 65536) (hM : ∀ i, i < p.n → p.m i ≤ 4096) :
    Calls Try.prog 20 #[.slice p.a p.n p.c] w fun e w' => FlatP p.m p.x p.n w e w' := by
  have hT := tot_le p.m hM
  obtain ⟨i60, hi, hz0, hz1, hz2⟩ := info_parts Try.info60
  go_enter Try.func20, Try.ntmps20
  go_wp2
  go_loop [3, 4] (fun t i => ∃ k : Nat, k ≤ p.n ∧ i = .int .i64 k ∧ t = .int .i64 (tot p.m k)) (fun _ i => p.n - (intOf i).toNat)
  case atStart => exact ⟨0, by omega, rfl, rfl⟩
  case round =>
    obtain ⟨k, hk, rfl, rfl⟩ := hrel
    have hTk : tot p.m k ≤ tot p.m p.n := tot_mono p.m hk
    by_cases hlt : k < p.n
    · obtain ⟨b, off, e, _, hc⟩ := hL.h (by omega)
      have hix := run_at1 (P := Try.prog) 44 52 p.a p.n p.c b off .i64 k Try.underlying44 Try.size52 e (by omega)
      have ck := hc k (by omega)
      have zk := hM k hlt
      clear hc e hL hM
      go_wp2
      go_round
      case rel => exact ⟨k + 1, by omega, by go_num, by show Value.int .i64 _ = Value.int .i64 ((tot p.m k + p.m k : Nat) : Int); congr 1⟩
      case measure => simp [intOf]; omega
    · obtain rfl : k = p.n := by omega
      obtain ⟨N, hN⟩ : ∃ N, N = tot p.m p.n := ⟨_, rfl⟩
      rw [← hN]
      have HN : Hid (N = tot p.m p.n) := hN
      have hN2 : N ≤ 65536 * 4096 := by omega
      have hmk := run_make_room (P := Try.prog) 52 60 z60 5 20 0 N Try.underlying52 Try.info60 .i64 .i64 (by omega) (by omega) (by omega) w
      have W0 := World.ownsRow_made (base := w.heap.size) (e := 60) (size := 5) w (madeCells z60.cells (N * 5)) N (Nat.le_refl _) (by simp only [maxLen]; omega) (by simp [madeCells])
      have O0 := Only.alloc [] w (.cells (madeCells z60.cells (N * 5)) 60)
      simp only [Int.natCast_zero] at hmk
      generalize w.alloc (.cells (madeCells z60.cells (N * 5)) 60) = wA at hmk W0 O0
      clear hN hT hTk hlt hk
      go_wp2
      go_loopw [5, 6] (fun r i wr => ∃ k : Nat, k ≤ p.n ∧ i = .int .i64 k ∧ wr.ownsRow w.heap.size 60 5 r (tot p.m k) (flat p.m p.x k) ∧ Only [] w wr) (fun _ i _ => p.n - (intOf i).toNat)
      case atStart => exact ⟨0, by omega, rfl, W0, O0⟩
      case round =>
        clear W0 O0 hmk
        obtain ⟨k, hk, rfl, hW, O⟩ := hrel
        by_cases hlt : k < p.n
        · have hTk : tot p.m (k + 1) ≤ tot p.m p.n := tot_mono p.m hlt
          have hTk' : tot p.m (k + 1) = tot p.m k + p.m k := rfl
          have hNk : tot p.m k + p.m k ≤ 65536 * 4096 := by have := HN.out; omega
          obtain ⟨b, off, e, _, hc⟩ := hL.h (by omega)
          have hix := run_at1 (P := Try.prog) 44 52 p.a p.n p.c b off .i64 k Try.underlying44 Try.size52 e (by omega)
          have ck0 := hc k (by omega)
          have gk := hL.g k hlt
          have mk := hM k hlt
          clear hc e hL hM HN hTk hTk'
          go_wp2
          obtain ⟨wo, rfl⟩ : ∃ wo : World, wo = wr := ⟨_, rfl⟩
          go_loopw [5, 7] (fun r i wj => ∃ j : Nat, j ≤ p.m k ∧ i = .int .i64 j ∧ wj.ownsRow w.heap.size 60 5 r (tot p.m k + j) (flat p.m p.x k ++ ents p.x k j) ∧ Only [] w wj) (fun _ i _ => p.m k - (intOf i).toNat)
          case atStart => exact ⟨0, by omega, rfl, by simpa [ents] using hW, O⟩
          case round =>
            clear hW O
            obtain ⟨wj, rfl⟩ : ∃ wj : World, wj = wr := ⟨_, rfl⟩
            obtain ⟨j, hj, rfl, hWj, Oj⟩ := hrel
            have ck := Oj.cell (by simp) ck0
            by_cases hlt2 : j < p.m k
            · obtain ⟨b2, o2, e2, _, hc2⟩ := gk (by omega)
              have hix2 := run_at (P := Try.prog) 52 60 (p.b k) (p.m k) (p.d k) b2 o2 5 .i64 j Try.underlying52 Try.size60 e2 hlt2
              have cc : ∀ q, q < 5 → wj.cell? ⟨b2, o2 + j * 5 + q, none⟩ = some (.int .u32 (p.x k j q)) := fun q hq => by
                have h := Oj.cell (by simp) (hc2 (j * 5 + q) (by omega))
                rw [show o2 + (j * 5 + q) = o2 + j * 5 + q by omega] at h
                rw [h]; simp only [show (j * 5 + q) / 5 = j by omega, show (j * 5 + q) % 5 = q by omega]
              have c0 := cc 0 (by omega)
              have c1 := cc 1 (by omega)
              have c2 := cc 2 (by omega)
              have c3 := cc 3 (by omega)
              have c4 := cc 4 (by omega)
              simp only [Nat.add_zero] at c0
              have W1 := fun o => hWj.alloc o
              have N1 := news_at (w := wj) rfl (ent p.x k j) 60
              have OO := fun o => Oj.trans (Only.alloc [] wj o)
              have hsz := Oj.size
              clear cc hc2 e2 gk hWj Oj
              go_wp2_with (at_builtin; refine wpList_append_own _ rfl (.tmp 38) (.tmp 46) 52 rfl w.heap.size 60 i60 z60 5 20 Try.underlying52 hi hz0 hz1 hz2 rfl (by omega) _ (tot p.m k + j) (flat p.m p.x k ++ ents p.x k j) rfl (W1 _) ⟨wj.heap.size, 0, none⟩ 1 1 (ent p.x k j) rfl rfl N1 (ent_one p.x k j) (by simp only [maxLen]; omega) (by omega) (by simp; omega) ?_)
              intro v' w1 hW1 hg1 _
              have O1 : Only [] w w1 := Only.grown (OO _) (W1 _) hg1
              have HF : Hid (w1.ownsRow w.heap.size 60 5 v' (tot p.m k + (j + 1)) (flat p.m p.x k ++ ents p.x k (j + 1)) ∧ Only [] w w1) := by
                refine ⟨?_, O1⟩
                show w1.ownsRow w.heap.size 60 5 v' (tot p.m k + (j + 1)) (flat p.m p.x k ++ (ents p.x k j ++ ent p.x k j))
                exact hW1
              clear W1 N1 hW1 hg1 O1 OO
              go_wp2
              go_roundw
              case rel => exact ⟨j + 1, by omega, by go_num, HF.out⟩
              case measure => simp [intOf]; omega
            · obtain rfl : j = p.m k := by omega
              have HF : Hid (wj.ownsRow w.heap.size 60 5 u5 (tot p.m (k + 1)) (flat p.m p.x (k + 1)) ∧ Only [] w wj) := ⟨hWj, Oj⟩
              clear hWj Oj gk
              go_wp2
              go_roundw
              case rel => exact ⟨k + 1, by omega, by go_num, HF.out⟩
              case measure => simp [intOf]; omega
        · obtain rfl : k = p.n := by omega
          have FIN : Hid (FlatP p.m p.x p.n w (.returned u5) wr) := ⟨u5, rfl, hW, O⟩
          clear hW O hL hM
          go_wp2
          go_ret
          exact FIN.out
end Go.Proofs.Qxb6602566a
