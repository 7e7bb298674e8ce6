/-
  THE WALK OF THE LAW FnPopBackSpec.
-/
import Derived.Test.Qxb6602566aPbPlain
import Derived.Test.Qxb6602566aPbGuards
namespace Go.Proofs.Qxb6602566a
open Go.RowKit
set_option linter.unusedVariables false
def LawP (w : World) (e : Ending) (w' : World) : Prop := e = .returned (.bool true) ∧ Only [] w w'

set_option maxRecDepth 100000 in
set_option maxHeartbeats 4000000 in
theorem law6 (p : Bs) (lc h n : Int) (B : Nat) (w : World) (hL : LaidB w B p) (hB : B ≤ w.heap.size) (hn63 : n ≤ 9223372036854775807) :
    Calls Try.prog 6 #[.slice p.a p.n p.c, .int .i64 lc, .int .i64 h, .int .i64 n] w fun e w' => LawP w e w' := by
  go_enter Try.func6, Try.ntmps6
  go_wp2_with fail
  refine (zzBytes26 p lc h n B w hL).mono ?_
  rintro e w0 ⟨⟨r, rfl, _⟩, hw0⟩
  subst hw0
  cases r with
  | false =>
    go_wp2
    go_ret
    exact ⟨rfl, Only.refl _ _⟩
  | true =>
  go_wp2_with fail
  refine (listBytes16 p B _ hL).mono ?_
  rintro e w0 ⟨⟨r, rfl, hF⟩, hw0⟩
  subst hw0
  cases r with
  | false =>
    clear hF
    go_wp2
    go_ret
    exact ⟨rfl, Only.refl _ _⟩
  | true =>
  replace hF : p.n ≤ 65536 := hF rfl
  obtain ⟨w, rfl⟩ : ∃ x, x = w0 := ⟨_, rfl⟩
  go_wp2_with fail
  refine (zzLens18 p B _ hL hF).mono ?_
  rintro e w1 ⟨rfl, RL, O1⟩
  go_wp2_with fail
  refine (shape17 p.n p.m h n w.heap.size p.n w1 hF RL (fun i hi => hL.y i hi)).mono ?_
  rintro e w0 ⟨⟨r, rfl, hSh⟩, hw0⟩
  subst hw0
  obtain ⟨w1, rfl⟩ : ∃ x, x = w0 := ⟨_, rfl⟩
  cases r with
  | false =>
    clear hSh RL
    go_wp2
    go_ret
    exact ⟨rfl, O1⟩
  | true =>
  replace hSh : Shape p.n p.m h n := hSh.1 rfl
  have L1 := hL.up O1 (Nat.le_refl B)
  go_wp2_with fail
  refine (lastCap19 p lc B w1 L1).mono ?_
  rintro e w0 ⟨⟨r, rfl, hCap⟩, hw0⟩
  subst hw0
  obtain ⟨w1, rfl⟩ : ∃ x, x = w0 := ⟨_, rfl⟩
  cases r with
  | false =>
    clear hCap hSh RL
    go_wp2
    go_ret
    exact ⟨rfl, O1⟩
  | true =>
  replace hCap := hCap rfl
  clear RL
  by_cases hn : n < 1
  · clear hCap hSh
    go_wp2
    go_ret
    exact ⟨rfl, O1⟩
  · have hn1 : 1 ≤ n := by omega
    have hk0 : 0 < p.n := by rcases hSh with ⟨_, _, e⟩ | ⟨e, _⟩ <;> omega
    obtain ⟨hc1, hc2⟩ := hCap hk0
    clear hCap
    obtain ⟨t, HT⟩ : ∃ t, Hid (p.n = t + 1) := ⟨p.n - 1, by show p.n = p.n - 1 + 1; omega⟩
    have hM : ∀ i, i < p.n → 1 ≤ p.m i ∧ p.m i ≤ 4096 := by rcases hSh with ⟨e, _⟩ | ⟨_, e, _⟩; omega; exact e
    obtain ⟨L, rfl⟩ : ∃ L : Nat, lc = (L : Int) := ⟨lc.toNat, by omega⟩
    have hLn : ¬ n < 1 := hn
    go_wp2_with fail
    refine (zzFlat20 p B w1 L1 hF (fun i hi => (hM i hi).2)).mono ?_
    rintro e w2 ⟨r, rfl, hW, O2⟩
    have L2 := L1.up O2 (Nat.le_refl B)
    go_wp2_with fail
    refine (makeList21 p L h n B w2 L2 hF hk0 (fun i hi => (hM i hi).2) (by omega) (by omega)).mono ?_
    rintro e w3 ⟨f, rfl, hLi, O3⟩
    go_wp2_with fail
    have hcap : ∀ i, i < p.n → 1 ≤ p.m i ∧ p.m i ≤ capOf p L i ∧ capOf p L i ≤ 4096 := fun i hi => by
      have h1 := hM i hi
      unfold capOf
      split
      · rename_i e
        rw [show i = p.n - 1 by omega] at h1 ⊢
        omega
      · omega
    refine (zzPopBack27 w2.heap.size (w2.heap.size + 1) p.n p.n p.m (capOf p L) p.x f h n w3 hLi hk0 hF (Nat.le_refl _) hcap hn1 hn63).mono ?_
    rintro e w4 ⟨rfl, O4, ba, K', hL4⟩
    unfold arr5
    obtain ⟨w5, hw5, r5, O5, z5⟩ := newArr w4 (lastEnt p.n p.m p.x) 60
    have H5 : Hid (w5 = _) := hw5
    clear hw5
    obtain ⟨ra, rc, rfl, hR⟩ := rowsAt hW
    have hs12 := O2.size
    have hs01 := O1.size
    have hs23 := O3.size
    have hs34 := O4.size
    have Ow4 : Only [] w w4 := (((O1.trans O2).trans O3).trans' O4 (fun i hi => by simp at hi; exact .inr (by omega)))
    have Ow5 := Ow4.trans O5
    obtain ⟨N, HN⟩ : ∃ N, Hid (N = tot p.m p.n) := ⟨_, rfl⟩
    have hN0 : 1 ≤ N := by
      have h1 := HN.out
      have h2 := HT.out
      have h3 := (hM t (by omega)).1
      rw [h2] at h1
      have h4 : tot p.m (t + 1) = tot p.m t + p.m t := rfl
      omega
    have hN1 : N ≤ 65536 * 4096 := by
      have h1 := HN.out
      have h2 := tot_le p.m (k := p.n) (fun i hi => (hM i hi).2)
      omega
    obtain ⟨y, hy⟩ := flat_at p.m p.x p.n
    obtain ⟨g0, hra, hg⟩ := hR (by have := HN.out; omega)
    have HRA : Hid (ra = some ⟨g0, 0, none⟩) := hra
    have hg0 : g0 < w2.heap.size := by
      have h1 := hg _ _ (hy 0 (by have := HN.out; omega) 0 (by omega))
      exact block_lt_of_cell h1
    have hB5 : ∀ j, j < N → ∀ q, q < 5 → w5.cell? ⟨g0, j * 5 + q, none⟩ = some (.int .u32 (y j q)) := fun j hj q hq =>
      O5.cell (by simp) (O4.cell (by simp; omega) (O3.cell (by simp) (hg _ _ (hy j (by have := HN.out; omega) q hq))))
    have hlast : ∀ q, q < 5 → w5.cell? ⟨g0, (N - 1) * 5 + q, none⟩ = some (.int .u32 (lastEnt p.n p.m p.x q)) := fun q hq => by
      have h1 := HN.out
      have h2 := HT.out
      have h3 := flat_end p.m p.x (t := t) (hM t (by omega)).1 hq
      rw [← h2, ← h1] at h3
      refine O5.cell (by simp) (O4.cell (by simp; omega) (O3.cell (by simp) (hg _ _ (h3.trans ?_))))
      have e : lastEnt p.n p.m p.x q = p.x t (p.m t - 1) q := by unfold lastEnt; rw [h2]; rfl
      rw [e]
      obtain rfl | rfl | rfl | rfl | rfl : q = 0 ∨ q = 1 ∨ q = 2 ∨ q = 3 ∨ q = 4 := by omega
      all_goals rfl
    have ixl : ∀ w0 : World, (Instr.indexAt 52 (.slice ra N rc) (.int .i64 ((N : Int) - 1))).run Try.prog w0 = .ok (.pointer (some ⟨g0, (N - 1) * 5, none⟩)) w0 := fun w0 => by
      have h := run_at (P := Try.prog) 52 60 ra N rc g0 0 5 .i64 (N - 1) Try.underlying52 Try.size60 hra (by omega) w0
      rwa [Nat.zero_add, show ((N - 1 : Nat) : Int) = (N : Int) - 1 by omega] at h
    have hq := neq5 (lastEnt p.n p.m p.x)
    rw [← HN.out]
    clear hR hW hg hra
    go_upto_region 14 with fail
    rw [← H5.out]
    by_cases hn1' : n = 1
    · have L5 : ListAt w5 w2.heap.size ba 0 K' (mm p.n p.m) (capOf p L) p.x f 0 0 := by
        have h := hL4.keep O5
        rw [kk_one hn1', if_pos hn1', show n - 1 = 0 by omega] at h
        exact h
      have HN1 : Hid (n = 1) := hn1'
      clear hn1'
      go_wp2_with fail
      refine (listState23 _ ba 0 K' _ _ _ _ 0 0 w5 L5 (by omega) (fun i hi => by omega) (fun i hi => by omega)).mono ?_
      rintro e w6 ⟨g, rfl, RS, RC, RG, O6⟩
      have l0 := O6.cell (by simp) (hlast 0 (by omega))
      have l1 := O6.cell (by simp) (hlast 1 (by omega))
      have l2 := O6.cell (by simp) (hlast 2 (by omega))
      have l3 := O6.cell (by simp) (hlast 3 (by omega))
      have l4 := O6.cell (by simp) (hlast 4 (by omega))
      simp only [Nat.add_zero] at l0
      have r6 := r5.keep O6 (by simp)
      have p0 := r6.cell (i := 0) (by omega)
      have p1 := r6.cell (i := 1) (by omega)
      have p2 := r6.cell (i := 2) (by omega)
      have p3 := r6.cell (i := 3) (by omega)
      have p4 := r6.cell (i := 4) (by omega)
      have hb : (n == 1) = true := by simp [HN1.out]
      have FIN : Hid (Only [] w w6) := Ow5.trans O6
      clear r6 r5 RS RC RG O6 O5 O4 O3 O2 O1 Ow4 Ow5 hL L1 L2 hLi hL4 L5 hM hcap hSh hB5 hlast hy
      go_upto_region 15 with fail
      go_quiet (fail)
      go_wp2
      go_ret
      exact ⟨rfl, FIN.out.trans (Only.drewN _ _ _)⟩
    · have hS' : Shape (kk p.n p.m n) (mm p.n p.m) h (n - 1) := by
        have h2 := HT.out
        rw [h2] at hSh ⊢
        exact shape_pop hSh hn1' hn1
      have hk' : kk p.n p.m n ≤ p.n := by have h2 := HT.out; rw [h2]; exact kk_le t p.m n
      have hN' : tot (mm p.n p.m) (kk p.n p.m n) + 1 = N := by
        have h2 := HT.out
        have h1 := HN.out
        rw [h1, h2]; exact tot_last p.m hn1' (hM t (by omega)).1
      have hpre : ∀ z, z < tot (mm p.n p.m) (kk p.n p.m n) * 5 → (flat (mm p.n p.m) p.x (kk p.n p.m n))[z]? = (flat p.m p.x p.n)[z]? := fun z hz => by
        have h2 := HT.out
        rw [h2] at hz ⊢
        exact flat_prefix p.m p.x hn1' (hM t (by omega)).1 hz
      have L5 : ListAt w5 w2.heap.size ba (kk p.n p.m n) K' (mm p.n p.m) (capOf p L) p.x f h (n - 1) := by
        have h := hL4.keep O5
        rw [if_neg hn1'] at h
        exact h
      have hm' : ∀ i, i < kk p.n p.m n → mm p.n p.m i ≤ capOf p L i ∧ capOf p L i ≤ 4096 := fun i hi => by
        have h1 := hcap i (by omega)
        have h2 := mm_le p.n p.m i
        omega
      generalize kk p.n p.m n = k' at *
      generalize mm p.n p.m = m' at *
      have hb1 : (n == 1) = false := by simp [hn1']
      clear hn1' hcap hSh hL4 hLi
      go_wp2_with fail
      refine (listState23 _ ba k' K' m' _ _ _ h (n - 1) w5 L5 (by omega) (fun i hi => by have := hm' i hi; omega) (fun i hi => (hm' i hi).2)).mono ?_
      rintro e w6 ⟨g, rfl, RS, RC, RG, O6⟩
      have l0 := O6.cell (by simp) (hlast 0 (by omega))
      have l1 := O6.cell (by simp) (hlast 1 (by omega))
      have l2 := O6.cell (by simp) (hlast 2 (by omega))
      have l3 := O6.cell (by simp) (hlast 3 (by omega))
      have l4 := O6.cell (by simp) (hlast 4 (by omega))
      simp only [Nat.add_zero] at l0
      have r6 := r5.keep O6 (by simp)
      have p0 := r6.cell (i := 0) (by omega)
      have p1 := r6.cell (i := 1) (by omega)
      have p2 := r6.cell (i := 2) (by omega)
      have p3 := r6.cell (i := 3) (by omega)
      have p4 := r6.cell (i := 4) (by omega)
      have hb2 : (h != h) = false := by simp
      have hb3 : (n - 1 != n - 1) = false := by simp
      have hB6 : ∀ j, j < N → ∀ q, q < 5 → w6.cell? ⟨g0, j * 5 + q, none⟩ = some (.int .u32 (y j q)) := fun j hj q hq => O6.cell (by simp) (hB5 j hj q hq)
      have Ow6 := Ow5.trans O6
      have L6 : LaidB w6 w6.heap.size ⟨some ⟨w5.heap.size, 0, none⟩, k', k', fun i => some ⟨g i, 0, none⟩, m', m', p.x⟩ :=
        ⟨fun _ => ⟨w5.heap.size, 0, rfl, RS.lt, fun i hi => by rw [Nat.zero_add]; exact RS.cell (by simpa using hi)⟩,
          fun i hi => fun _ => ⟨g i, 0, rfl, (RG i hi).lt, fun j hj => by rw [Nat.zero_add]; exact (RG i hi).cell hj⟩,
          by show (k' : Int) ≤ _; omega, fun i hi => by have := hm' i hi; show (m' i : Int) ≤ _; omega⟩
      have HX : Hid ((∀ j, j < N → ∀ q, q < 5 → w6.cell? ⟨g0, j * 5 + q, none⟩ = some (.int .u32 (y j q))) ∧ Only [] w w6 ∧ LaidB w6 w6.heap.size ⟨some ⟨w5.heap.size, 0, none⟩, k', k', fun i => some ⟨g i, 0, none⟩, m', m', p.x⟩ ∧ Row w6 (w5.heap.size + 1) 3 k' (ints (capOf p L))) := ⟨hB6, Ow6, L6, RC⟩
      have HY : Hid (∀ j, j < tot p.m p.n → ∀ q, q < 5 → (flat p.m p.x p.n)[j * 5 + q]? = some (.int .u32 (y j q))) := hy
      have HP : Hid (∀ z, z < tot m' k' * 5 → (flat m' p.x k')[z]? = (flat p.m p.x p.n)[z]?) := hpre
      have HM : Hid (∀ i, i < k' → m' i ≤ capOf p L i ∧ capOf p L i ≤ 4096) := hm'
      have HS : Hid (Shape k' m' h (n - 1)) := hS'
      clear r6 r5 RS RC RG O6 O5 O4 O3 O2 O1 Ow4 Ow5 Ow6 L6 hL L1 L2 L5 hM hB5 hB6 hlast hy hpre hm' hS' z5
      go_upto_region 15 with fail
      go_quiet (fail)
      go_upto_region 21 with fail
      clear l0 l1 l2 l3 l4 p0 p1 p2 p3 p4 ixl hq hb1
      obtain ⟨hB6, Ow6, L6, RC⟩ := HX.out
      have O67 := Only.drewN [] w6 nq
      generalize w6.drewN nq = w7 at *
      have hB7 : ∀ j, j < N → ∀ q, q < 5 → w7.cell? ⟨g0, j * 5 + q, none⟩ = some (.int .u32 (y j q)) := fun j hj q hq => O67.cell (by simp) (hB6 j hj q hq)
      have Ow7 := Ow6.trans O67
      have L7 := L6.up O67 (O67.size)
      have RC7 := RC.keep O67 (by simp)
      clear hB6 Ow6 L6 RC O67 HX
      go_wp2_with fail
      refine (zzLens18 _ _ w7 L7 (by show k' ≤ 65536; omega)).mono ?_
      rintro e w8 ⟨rfl, RL, O8⟩
      replace RL : Row w8 w7.heap.size 3 k' (ints m') := RL
      dsimp only
      go_wp2_with fail
      refine (shape17 k' m' h (n - 1) w7.heap.size k' w8 (by omega) RL (fun i hi => by have := HM.out i hi; omega)).mono ?_
      rintro e w0 ⟨⟨r, rfl, hSh⟩, hw0⟩
      subst hw0
      obtain ⟨w8, rfl⟩ : ∃ x, x = w0 := ⟨_, rfl⟩
      obtain rfl : r = true := hSh.2 HS.out
      clear hSh
      have RC8 := RC7.keep O8 (by simp)
      go_wp2_with fail
      refine (caps24 k' m' (capOf p L) w7.heap.size (w5.heap.size + 1) k' k' w8 (by omega) RL RC8 HM.out).mono ?_
      rintro e w9 ⟨rfl, O9⟩
      have L9 := L7.up (O8.trans O9) (O8.trans O9).size
      go_wp2_with fail
      refine (zzFlat20 _ _ w9 L9 (by show k' ≤ 65536; omega) (fun i hi => by have := HM.out i hi; show m' i ≤ 4096; omega)).mono ?_
      rintro e w10 ⟨r, rfl, hW, O10⟩
      replace hW : w10.ownsRow w9.heap.size 60 5 r (tot m' k') (flat m' p.x k') := hW
      obtain ⟨rb, rd, rfl, hR⟩ := rowsAt hW
      have O710 := (O8.trans O9).trans O10
      have Ow10 := Ow7.trans O710
      have hB10 : ∀ j, j < N → ∀ q, q < 5 → w10.cell? ⟨g0, j * 5 + q, none⟩ = some (.int .u32 (y j q)) := fun j hj q hq => O710.cell (by simp) (hB7 j hj q hq)
      obtain ⟨N', HN'⟩ : ∃ N', Hid (N' = tot m' k') := ⟨_, rfl⟩
      rw [← HN'.out]
      have hNN : N' + 1 = N := by have := HN'.out; omega
      have hb4 : ((N' : Int) != (N : Int) - 1) = false := by simp; omega
      have HNN : Hid (N' + 1 = N) := hNN
      have HR : Hid (0 < N' → ∃ g, rb = some ⟨g, 0, none⟩ ∧ ∀ q u, (flat m' p.x k')[q]? = some u → w10.cell? ⟨g, q, none⟩ = some u) := fun h => hR (by have := HN'.out; omega)
      have hN2 : N' ≤ 65536 * 4096 := by omega
      clear hNN hN' hR hW hB7 Ow7 L7 L9 RC7 RC8 RL O8 O9 O10 O710
      go_wp2
      go_loopw [18] (fun i wr => ∃ j : Nat, j ≤ N' ∧ i = .int .i64 j ∧ Only [] w10 wr) (fun i _ => N' - (intOf i).toNat)
      case atStart => exact ⟨0, by omega, rfl, Only.refl _ _⟩
      case round =>
        obtain ⟨j, hj, rfl, O⟩ := hrel
        by_cases hlt : j < N'
        · obtain ⟨g1, hrb, hg1⟩ := HR.out (by omega)
          have ix1 : ∀ w0 : World, (Instr.indexAt 52 (.slice rb N' rd) (.int .i64 (j : Int))).run Try.prog w0 = .ok (.pointer (some ⟨g1, j * 5, none⟩)) w0 := fun w0 => by
            have h := run_at (P := Try.prog) 52 60 rb N' rd g1 0 5 .i64 j Try.underlying52 Try.size60 hrb hlt w0
            rwa [Nat.zero_add] at h
          have ix2 : ∀ w0 : World, (Instr.indexAt 52 (.slice ra N rc) (.int .i64 (j : Int))).run Try.prog w0 = .ok (.pointer (some ⟨g0, j * 5, none⟩)) w0 := fun w0 => by
            have h := run_at (P := Try.prog) 52 60 ra N rc g0 0 5 .i64 j Try.underlying52 Try.size60 HRA.out (by have := HNN.out; omega) w0
            rwa [Nat.zero_add] at h
          have b : ∀ q, q < 5 → wr.cell? ⟨g0, j * 5 + q, none⟩ = some (.int .u32 (y j q)) := fun q hq => O.cell (by simp) (hB10 j (by have := HNN.out; omega) q hq)
          have a : ∀ q, q < 5 → wr.cell? ⟨g1, j * 5 + q, none⟩ = some (.int .u32 (y j q)) := fun q hq => by
            refine O.cell (by simp) (hg1 _ _ ?_)
            rw [HP.out _ (by have := HN'.out; omega)]
            exact HY.out j (by have h1 := HN.out; have h2 := HNN.out; omega) q hq
          have a0 := a 0 (by omega)
          have a1 := a 1 (by omega)
          have a2 := a 2 (by omega)
          have a3 := a 3 (by omega)
          have a4 := a 4 (by omega)
          have b0 := b 0 (by omega)
          have b1 := b 1 (by omega)
          have b2 := b 2 (by omega)
          have b3 := b 3 (by omega)
          have b4 := b 4 (by omega)
          simp only [Nat.add_zero] at a0 b0
          have hq := neq5 (y j)
          clear a b hrb hg1 hB10
          go_upto_region 30 with fail
          go_quiet (fail)
          go_wp2
          go_roundw
          case rel => exact ⟨j + 1, by omega, by go_num, O.trans (Only.drewN _ _ _)⟩
          case measure => simp [intOf]; omega
        · clear hB10
          go_wp2
          go_ret
          exact ⟨rfl, Ow10.trans O⟩
end Go.Proofs.Qxb6602566a
