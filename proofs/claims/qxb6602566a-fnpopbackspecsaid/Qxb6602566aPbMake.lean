/-
  ZZMakeList: an entryList in fresh memory.
-/
import Derived.Test.Qxb6602566aPbFlat
import Derived.Deep.CutRange
namespace Go.Proofs.Qxb6602566a
open Go.RowKit
set_option linter.unusedVariables false

def hdr (ba : Option Addr) (k K : Nat) (h n : Int) : Nat → Value
  | 0 => .slice ba k K
  | 1 => .int .i64 h
  | _ => .int .i64 n
def cells5 (x : Nat → Nat → Nat → Int) (i : Nat) : Nat → Value := fun q => .int .u32 (x i (q / 5) (q % 5))
/-- An entryList lies at block lb: k blocks (block i: m i entries, room for cp i), head h, count n. -/
structure ListAt (w : World) (lb : Nat) (ba : Option Addr) (k K : Nat) (m cp : Nat → Nat) (x : Nat → Nat → Nat → Int) (f : Nat → Nat) (h n : Int) : Prop where
  rh : Row w lb 79 3 (hdr ba k K h n)
  rb : 0 < k → ∃ bb, ba = some ⟨bb, 0, none⟩ ∧ Row w bb 80 k (fun i => .slice (some ⟨f i, 0, none⟩) (m i) (cp i))
  rf : ∀ i, i < k → Row w (f i) 84 (m i * 5) (cells5 x i)
def capOf (p : Bs) (L i : Nat) : Nat := if i + 1 = p.n then L else p.m i
structure AtL (p : Bs) (L : Nat) (h n : Int) (w wr : World) (k : Nat) (f : Nat → Nat) : Prop where
  rh : Row wr w.heap.size 79 3 (hdr (some ⟨w.heap.size + 1, 0, none⟩) p.n p.n h n)
  rb : Row wr (w.heap.size + 1) 80 p.n (fun i => if i < k then .slice (some ⟨f i, 0, none⟩) (p.m i) (capOf p L i) else .slice none 0 0)
  rf : ∀ i, i < k → Row wr (f i) 84 (p.m i * 5) (cells5 p.x i)
  ol : Only [] w wr
theorem AtL.start (p : Bs) (L : Nat) (h n : Int) (w : World) : AtL p L h n w ((w.alloc (.cells #[.slice (some ⟨w.heap.size + 1, 0, none⟩) p.n p.n, .int .i64 h, .int .i64 n] 79)).alloc (.cells (Array.replicate p.n (.slice none 0 0)) 80)) 0 (fun _ => 0) := by
  refine ⟨?_, ?_, fun i hi => by omega, (Only.alloc _ _ _).trans (Only.alloc _ _ _)⟩
  · have h1 := Row.made w #[.slice (some ⟨w.heap.size + 1, 0, none⟩) p.n p.n, .int .i64 h, .int .i64 n] 79
    refine (h1.alloc _).ext (fun i hi => ?_)
    have hi : i < 3 := hi
    obtain rfl | rfl | rfl : i = 0 ∨ i = 1 ∨ i = 2 := by omega
    all_goals rfl
  · have h1 := Row.zeros (w.alloc (.cells #[.slice (some ⟨w.heap.size + 1, 0, none⟩) p.n p.n, .int .i64 h, .int .i64 n] 79)) p.n (.slice none 0 0) 80
    rw [World.size_alloc] at h1
    exact h1.ext (fun i _ => by simp)
theorem AtL.keep {p : Bs} {L : Nat} {h n : Int} {w wr w' : World} {k : Nat} {f : Nat → Nat} (H : AtL p L h n w wr k f) (O : Only [] wr w') : AtL p L h n w w' k f :=
  ⟨H.rh.keep O (by simp), H.rb.keep O (by simp), fun i hi => (H.rf i hi).keep O (by simp), H.ol.trans O⟩
theorem AtL.keep1 {p : Bs} {L : Nat} {h n : Int} {w wr w' : World} {k c : Nat} {f : Nat → Nat} (H : AtL p L h n w wr k f) (O : Only [c] wr w') (h1 : w.heap.size < c) (h2 : w.heap.size + 1 < c) (h3 : ∀ i, i < k → f i < c) : AtL p L h n w w' k f :=
  ⟨H.rh.keep O (by simp; omega), H.rb.keep O (by simp; omega), fun i hi => (H.rf i hi).keep O (by have := h3 i hi; simp; omega), H.ol.trans' O (fun i hi => by simp at hi; omega)⟩
/-- Two rows of different element types are different blocks. -/
theorem Row.ne {w : World} {b b' : Nat} {T T' : TypeId} {n n' : Nat} {f f' : Nat → Value} (r : Row w b T n f) (r' : Row w b' T' n' f') (h : T ≠ T') : b ≠ b' := by
  rintro rfl
  obtain ⟨xs, h1, _⟩ := r
  obtain ⟨ys, h2, _⟩ := r'
  rw [h1] at h2
  simp at h2
  exact h h2.2
theorem AtL.next {p : Bs} {L : Nat} {h n : Int} {w wj w' : World} {k c : Nat} {f : Nat → Nat} (H : AtL p L h n w wj k f) (hk : k < p.n) (rc : Row wj c 84 (p.m k * 5) (cells5 p.x k)) (hw : w' = wj.setCell ⟨w.heap.size + 1, k, none⟩ (.slice (some ⟨c, 0, none⟩) (p.m k) (capOf p L k))) : ∃ f', AtL p L h n w w' (k + 1) f' := by
  subst hw
  have n1 := H.rh.ne H.rb (by decide)
  refine ⟨fun i => if i = k then c else f i, H.rh.other _ _ n1 _, (H.rb.set k _).ext (fun i hi => ?_), fun i hi => ?_, H.ol.set _ _ _ (.inr (by omega))⟩
  · by_cases e : i = k
    · subst e; rw [upd_at, if_pos (by omega)]; simp
    · rw [upd_ne _ _ e]
      by_cases h1 : i < k
      · rw [if_pos h1, if_pos (by omega)]; simp [e]
      · rw [if_neg h1, if_neg (by omega)]
  · by_cases e : i = k
    · subst e; simp only [if_pos]; exact rc.other _ _ (rc.ne H.rb (by decide)) _
    · simp only [if_neg e]
      have r := H.rf i (by omega)
      exact r.other _ _ (r.ne H.rb (by decide)) _
theorem make84 (n c : Nat) (hnc : n ≤ c) (hc : c ≤ 4096) (w : World) : (Instr.makeSlice 80 (.int .i64 (n : Int)) (.int .i64 (c : Int))).run Try.prog w = .ok (.slice (some ⟨w.heap.size, 0, none⟩) n c) (w.alloc (.cells (Array.replicate (c * 5) (.int .u32 0)) 84)) := by
  cases hi : Try.prog.info? 84 with
  | none => have h := Try.info84; simp [hi] at h
  | some i =>
    have h := Try.info84
    rw [hi] at h
    simp only [Option.map_some, Option.some.injEq, Prod.mk.injEq] at h
    obtain ⟨h1, h2, h3⟩ := h
    cases hz : i.zero with
    | none => rw [hz] at h1; cases h1
    | some z =>
      rw [hz] at h1
      simp only [Option.map_some, Option.some.injEq] at h1
      have h := run_make (P := Try.prog) w 80 84 i z Try.underlying80 hi hz .i64 .i64 n c (by omega) (by omega) (by rw [h3, ← Int.natCast_mul]; omega) (by omega)
      rw [h2, h1, madeCells_rep _ 5 _ (by omega)] at h
      simpa using h
theorem newArr (w : World) (x : Nat → Int) (T : TypeId) : ∃ w1, w1 = w.alloc (.cells #[.int .u32 (x 0), .int .u32 (x 1), .int .u32 (x 2), .int .u32 (x 3), .int .u32 (x 4)] T) ∧ Row w1 w.heap.size T 5 (fun j => .int .u32 (x j)) ∧ Only [] w w1 ∧ w1.heap.size = w.heap.size + 1 := by
  refine ⟨_, rfl, (Row.made w _ T).ext (fun i hi => ?_), Only.alloc _ _ _, by simp⟩
  have hi : i < 5 := hi
  obtain rfl | rfl | rfl | rfl | rfl : i = 0 ∨ i = 1 ∨ i = 2 ∨ i = 3 ∨ i = 4 := by omega
  all_goals rfl
def Got (x : Nat → Nat → Nat → Int) (i : Nat) (g : Nat → Value) (j : Nat) : Prop := ∀ q, q < j * 5 → g q = cells5 x i q
theorem Got.next {x : Nat → Nat → Nat → Int} {i j : Nat} {g : Nat → Value} (h : Got x i g j) : Got x i (fun q => if j * 5 ≤ q ∧ q < j * 5 + 5 then (fun r => Value.int .u32 (x i j r)) (q - j * 5) else g q) (j + 1) := by
  intro q hq
  by_cases e : j * 5 ≤ q
  · show (if _ then _ else _) = _
    rw [if_pos ⟨e, by omega⟩]
    unfold cells5
    rw [show q / 5 = j by omega, show q - j * 5 = q % 5 by omega]
  · show (if _ then _ else _) = _
    rw [if_neg (by omega)]
    exact h q (by omega)
def MadeP (p : Bs) (L : Nat) (h n : Int) (w : World) (e : Ending) (w' : World) : Prop :=
  ∃ f, e = .returned (.pointer (some ⟨w.heap.size, 0, none⟩)) ∧ ListAt w' w.heap.size (some ⟨w.heap.size + 1, 0, none⟩) p.n p.n p.m (capOf p L) p.x f h n ∧ Only [] w w'
set_option maxRecDepth 100000 in
set_option maxHeartbeats 4000000 in
theorem makeList21 (p : Bs) (L : Nat) (h n : Int) (B : Nat) (w : World) (hL : LaidB w B p) (hn : p.n ≤ 65536) (h0 : 0 < p.n) (hM : ∀ i, i < p.n → p.m i ≤ 4096) (hc1 : p.m (p.n - 1) ≤ L) (hc2 : L ≤ 4096) :
    Calls Try.prog 21 #[.slice p.a p.n p.c, .int .i64 (L : Int), .int .i64 h, .int .i64 n] w fun e w' => MadeP p L h n w e w' := by
  have hz : ((p.n : Int) == 0) = false := by simp; omega
  have hmk : ∀ w : World, (Instr.makeSlice 77 (.int .i64 (p.n : Int)) (.int .i64 (p.n : Int))).run Try.prog w = .ok (.slice (some ⟨w.heap.size, 0, none⟩) p.n p.n) (w.alloc (.cells (Array.replicate p.n (.slice none 0 0)) 80)) := fun w => by
    have h := run_make_list (P := Try.prog) 77 80 (.slice none 0 0) (.slice none 0 0) 1 24 p.n Try.underlying77 Try.info80 rfl (by omega) .i64 .i64 (by omega) (by omega) w
    simpa using h
  have S0 := AtL.start p L h n w
  go_enter Try.func21, Try.ntmps21
  go_wp2
  go_loopw [11] (fun i wr => ∃ (k : Nat) (f : Nat → Nat), k ≤ p.n ∧ i = .int .i64 k ∧ AtL p L h n w wr k f) (fun i _ => p.n - (intOf i).toNat)
  case atStart => exact ⟨0, _, by omega, rfl, S0⟩
  case round =>
    clear S0 hmk
    obtain ⟨k, f, hk, rfl, H⟩ := hrel
    by_cases hlt : k < p.n
    · obtain ⟨b, off, e, _, hc⟩ := hL.h (by omega)
      have hix := run_at1 (P := Try.prog) 44 52 p.a p.n p.c b off .i64 k Try.underlying44 Try.size52 e (by omega)
      have ck := H.ol.cell (by simp) (hc k (by omega))
      have gk := hL.g k hlt
      have mk := hM k hlt
      have cpk : p.m k ≤ capOf p L k ∧ capOf p L k ≤ 4096 := by
        unfold capOf
        split
        · rename_i e
          rw [show k = p.n - 1 by omega]; exact ⟨hc1, hc2⟩
        · exact ⟨Nat.le_refl _, mk⟩
      have m84 := make84 (p.m k) (capOf p L k) cpk.1 cpk.2
      obtain ⟨C, hC⟩ : ∃ C, C = capOf p L k := ⟨_, rfl⟩
      rw [← hC] at m84 cpk
      have HC : Hid (C = capOf p L k) := hC
      have HL : Hid (C = if k + 1 = p.n then L else p.m k) := hC
      clear hC hc e
      go_upto_if 48 with fail
      go_cut [13] from 48 to 49 (fun s wx => s = .int .i64 (C : Int) ∧ wx = wr)
      case first =>
        by_cases hl : k + 1 = p.n
        · have hb : ((k : Int) == (p.n : Int) - 1) = true := by simp; omega
          have eC : (L : Int) = (C : Int) := by have h1 := HL.out; rw [if_pos hl] at h1; omega
          have HE : Hid ((L : Int) = (C : Int)) := eC
          clear hl eC
          go_wp2
          go_meet
          case rel => exact ⟨by rw [HE.out], rfl⟩
        · have hb : ((k : Int) == (p.n : Int) - 1) = false := by simp; omega
          have eC : (p.m k : Int) = (C : Int) := by have h1 := HL.out; rw [if_neg hl] at h1; omega
          have HE : Hid ((p.m k : Int) = (C : Int)) := eC
          clear hl eC
          go_wp2
          go_meet
          case rel => exact ⟨by rw [HE.out], rfl⟩
      case rest =>
      obtain ⟨rfl, hwc⟩ := hcut
      subst hwc
      obtain ⟨wo, rfl⟩ : ∃ wo : World, wo = wc := ⟨_, rfl⟩
      have HB : Hid (w.heap.size < wo.heap.size ∧ w.heap.size + 1 < wo.heap.size ∧ ∀ i, i < k → f i < wo.heap.size) := ⟨H.rh.lt, H.rb.lt, fun i hi => (H.rf i hi).lt⟩
      have R0 := (Row.zeros wo (C * 5) (.int .u32 0) 84).less (m := p.m k * 5) (by omega)
      have A0 := H.keep (Only.alloc [] wo (.cells (Array.replicate (C * 5) (.int .u32 0)) 84))
      have O0 := Only.alloc [] wo (.cells (Array.replicate (C * 5) (.int .u32 0)) 84)
      clear hL hM
      go_wp2
      go_loopw [15] (fun i wj => ∃ (j : Nat) (g : Nat → Value), j ≤ p.m k ∧ i = .int .i64 j ∧ Row wj wo.heap.size 84 (p.m k * 5) g ∧ Got p.x k g j ∧ AtL p L h n w wj k f ∧ Only [] wo wj) (fun i _ => p.m k - (intOf i).toNat)
      case atStart => exact ⟨0, _, by omega, rfl, R0, fun q hq => by omega, A0, O0⟩
      case round =>
        clear R0 A0 m84 H O0
        obtain ⟨wj, rfl⟩ : ∃ wj : World, wj = wr := ⟨_, rfl⟩
        obtain ⟨j, g, hj, rfl, R, G, H, Oj⟩ := hrel
        by_cases hlt2 : j < p.m k
        · obtain ⟨b2, o2, e2, _, hc2⟩ := gk (by omega)
          have hix2 := run_at (P := Try.prog) 52 60 (p.b k) (p.m k) (p.d k) b2 o2 5 .i64 j Try.underlying52 Try.size60 e2 hlt2
          have cc : ∀ q, q < 5 → wj.cell? ⟨b2, o2 + j * 5 + q, none⟩ = some (.int .u32 (p.x k j q)) := fun q hq => by
            have h := H.ol.cell (by simp) (hc2 (j * 5 + q) (by omega))
            rw [show o2 + (j * 5 + q) = o2 + j * 5 + q by omega] at h
            rw [h]; simp only [show (j * 5 + q) / 5 = j by omega, show (j * 5 + q) % 5 = q by omega]
          have c0 := cc 0 (by omega)
          have c1 := cc 1 (by omega)
          have c2 := cc 2 (by omega)
          have c3 := cc 3 (by omega)
          have c4 := cc 4 (by omega)
          simp only [Nat.add_zero] at c0
          obtain ⟨wV, hwV, rv, O4, z4⟩ := newArr wj (p.x k j) 60
          have HV : Hid (wV = _) := hwV
          have Z4 : Hid (wV.heap.size = wj.heap.size + 1) := z4
          have n0 := rv.cell (i := 0) (by omega)
          have n1 := rv.cell (i := 1) (by omega)
          have n2 := rv.cell (i := 2) (by omega)
          have n3 := rv.cell (i := 3) (by omega)
          have n4 := rv.cell (i := 4) (by omega)
          have RV := R.keep O4 (by simp)
          have d0 := RV.cell (i := j * 5) (by omega)
          have d1 := RV.cell (i := j * 5 + 1) (by omega)
          have d2 := RV.cell (i := j * 5 + 2) (by omega)
          have d3 := RV.cell (i := j * 5 + 3) (by omega)
          have d4 := RV.cell (i := j * 5 + 4) (by omega)
          have fz := fun i => RV.frozen i
          have hoj := Oj.size
          have HF : Hid (∃ g', Row (setN wV wo.heap.size (j * 5) (fun r => .int .u32 (p.x k j r)) 5) wo.heap.size 84 (p.m k * 5) g' ∧ Got p.x k g' (j + 1) ∧ AtL p L h n w (setN wV wo.heap.size (j * 5) (fun r => .int .u32 (p.x k j r)) 5) k f ∧ Only [] wo (setN wV wo.heap.size (j * 5) (fun r => .int .u32 (p.x k j r)) 5)) := by
            have O5 := Only.setN wV wo.heap.size (j * 5) (fun r => .int .u32 (p.x k j r)) 5
            exact ⟨_, RV.setN (j * 5) _ 5, G.next, (H.keep O4).keep1 O5 HB.out.1 HB.out.2.1 HB.out.2.2, (Oj.trans O4).trans' O5 (fun i hi => by simp at hi; omega)⟩
          clear hwV z4 rv O4 RV R G H Oj cc hc2 e2 gk
          go_upto_region 18 with fail
          rw [← HV.out]
          clear c0 c1 c2 c3 c4
          go_wp2
          go_roundw
          case rel =>
            obtain ⟨g', h1, h2, h3, h4⟩ := HF.out
            exact ⟨j + 1, g', by omega, by go_num, h1, h2, h3, h4⟩
          case measure => simp [intOf]; omega
        · obtain rfl : j = p.m k := by omega
          obtain ⟨f', H'⟩ := H.next hlt (R.ext (fun q hq => G q hq)) rfl
          have h00 : wj.cell? ⟨w.heap.size, 0, none⟩ = some (.slice (some ⟨w.heap.size + 1, 0, none⟩) p.n p.n) := H.rh.cell (i := 0) (by omega)
          have c1 := H.rb.cell hlt
          have f1 := H.rb.frozen k
          have H2 : AtL p L h n w (wj.setCell ⟨w.heap.size + 1, k, none⟩ (.slice (some ⟨wo.heap.size, 0, none⟩) (p.m k) C)) (k + 1) f' := by rw [HC.out]; exact H'
          have HF : Hid (AtL p L h n w (wj.setCell ⟨w.heap.size + 1, k, none⟩ (.slice (some ⟨wo.heap.size, 0, none⟩) (p.m k) C)) (k + 1) f') := H2
          clear H H2 H' R G gk Oj
          go_wp2
          go_roundw
          case rel => exact ⟨k + 1, f', by omega, by go_num, HF.out⟩
          case measure => simp [intOf]; omega
    · obtain rfl : k = p.n := by omega
      have FIN : Hid (MadeP p L h n w (.returned (.pointer (some ⟨w.heap.size, 0, none⟩))) wr) := ⟨f, rfl, ⟨H.rh, fun _ => ⟨_, rfl, H.rb.ext (fun i hi => by rw [if_pos hi])⟩, H.rf⟩, H.ol⟩
      clear H hL hM
      go_wp2
      go_ret
      exact FIN.out
end Go.Proofs.Qxb6602566a
