/-
  popBack AND clear: the last entry off a list.
-/
import Derived.Test.Qxb6602566aPbMake
import Derived.StillTailTactics
namespace Go.Proofs.Qxb6602566a
open Go.RowKit
set_option linter.unusedVariables false

theorem last5 {T : TypeId} {wr : World} {s : Nat} {a b c d e : Value} (x : Nat → Value) (r0 : wr.heap[s]? = some (.cells #[a, b, c, d, e] T (0, 0))) : (setN wr s 0 x 5).heap[s]? = some (.cells #[x 0, x 1, x 2, x 3, x 4] T (0, 0)) := by
  have h0 := heap_setCell_same wr s 0 _ T (x 0) r0
  have h1 := heap_setCell_same _ s 1 _ T (x 1) h0
  have h2 := heap_setCell_same _ s 2 _ T (x 2) h1
  have h3 := heap_setCell_same _ s 3 _ T (x 3) h2
  have h4 := heap_setCell_same _ s 4 _ T (x 4) h3
  exact h4
theorem run_cut_last {P : Program} (t e : TypeId) (b n c s : Nat) (hu : P.underlying t = some (.slice e)) (hs : (P.info? e).map (·.size) = some s) (h0 : 0 < n) (hc : n ≤ c) (w : World) :
    (Instr.slice t (.slice (some ⟨b, 0, none⟩) n c) none (some (.int .i64 ((n : Int) - 1))) none).run P w = .ok (.slice (some ⟨b, 0, none⟩) (n - 1) c) w := by
  have h2 : P.elem t = e := by simp [Program.elem, hu]
  rw [run_slice_h (P := P) (w := w) (t := t) (a := some ⟨b, 0, none⟩) (len := n) (cap := c) (kh := .i64) (h := (n : Int) - 1) (by rw [h2]; exact hu) (by omega) (by omega), h2]
  cases hq : P.info? e with
  | none => simp [hq] at hs
  | some inf =>
    have e1 : ((n : Int) - 1).toNat = n - 1 := by omega
    have e2 : (⟨b, 0, none⟩ : Addr).add 0 = ⟨b, 0, none⟩ := rfl
    simp [sizeOf, typeInfo, hq, sliced, e1, e2]
def kk (k : Nat) (m : Nat → Nat) (n : Int) : Nat := if n = 1 then 0 else if m (k - 1) = 1 then k - 1 else k
def mm (k : Nat) (m : Nat → Nat) : Nat → Nat := fun i => if i + 1 = k then m i - 1 else m i
def lastEnt (k : Nat) (m : Nat → Nat) (x : Nat → Nat → Nat → Int) : Nat → Int := fun q => x (k - 1) (m (k - 1) - 1) q
def arr5 (y : Nat → Int) : Value := .agg #[.int .u32 (y 0), .int .u32 (y 1), .int .u32 (y 2), .int .u32 (y 3), .int .u32 (y 4)]
def PopP (lb bb k : Nat) (m cp : Nat → Nat) (x : Nat → Nat → Nat → Int) (f : Nat → Nat) (h n : Int) (w : World) (e : Ending) (w' : World) : Prop :=
  e = .returned (arr5 (lastEnt k m x)) ∧ Only [lb, bb] w w' ∧ ∃ ba K', ListAt w' lb ba (kk k m n) K' (mm k m) cp x f (if n = 1 then 0 else h) (n - 1)
theorem ListAt.keep {w w' : World} {lb : Nat} {ba : Option Addr} {k K : Nat} {m cp : Nat → Nat} {x : Nat → Nat → Nat → Int} {f : Nat → Nat} {h n : Int} (H : ListAt w lb ba k K m cp x f h n) (O : Only [] w w') : ListAt w' lb ba k K m cp x f h n :=
  ⟨H.rh.keep O (by simp), fun h0 => by obtain ⟨bb, e, r⟩ := H.rb h0; exact ⟨bb, e, r.keep O (by simp)⟩, fun i hi => (H.rf i hi).keep O (by simp)⟩
def ClearP (lb : Nat) (w : World) (e : Ending) (w' : World) : Prop := e = .returned (.tuple #[]) ∧ w' = setN w lb 0 (hdr none 0 0 0 0) 3
theorem clear36 (lb : Nat) (f : Nat → Value) (w : World) (R : Row w lb 79 3 f) : Calls Try.prog 36 #[.pointer (some ⟨lb, 0, none⟩)] w fun e w' => ClearP lb w e w' := by
  have c0 := R.cell (i := 0) (by omega)
  have c1 := R.cell (i := 1) (by omega)
  have c2 := R.cell (i := 2) (by omega)
  have fz := fun i => R.frozen i
  go_enter Try.func36, Try.ntmps36
  go_wp2
  go_end0
  exact ⟨rfl, rfl⟩
theorem ListAt.keep1 {w w' : World} {lb c : Nat} {ba : Option Addr} {k K : Nat} {m cp : Nat → Nat} {x : Nat → Nat → Nat → Int} {f : Nat → Nat} {h n : Int} (H : ListAt w lb ba k K m cp x f h n) (O : Only [c] w w') (h1 : lb ≠ c) (h2 : ∀ bb f', ba = some ⟨bb, 0, none⟩ → Row w bb 80 k f' → bb ≠ c) (h3 : ∀ i, i < k → f i ≠ c) : ListAt w' lb ba k K m cp x f h n :=
  ⟨H.rh.keep O (by simpa using h1), fun h0 => by obtain ⟨bb, e, r⟩ := H.rb h0; exact ⟨bb, e, r.keep O (by simpa using h2 bb _ e r)⟩, fun i hi => (H.rf i hi).keep O (by simpa using h3 i hi)⟩
/-- The end of popBack: the entry goes into the result's cell. -/
theorem pop_fin {lb bb t : Nat} {m cp : Nat → Nat} {x : Nat → Nat → Nat → Int} {f : Nat → Nat} {h n : Int} {w w2 : World} {ba : Option Addr} {K' : Nat} (L2 : ListAt w2 lb ba (kk (t + 1) m n) K' (mm (t + 1) m) cp x f (if n = 1 then 0 else h) (n - 1)) (O2 : Only [lb, bb] w w2)
    (hlb : lb < w.heap.size) (hba : ∀ b, ba = some ⟨b, 0, none⟩ → b = bb) (hbb : bb < w.heap.size) (hf : ∀ i, i < t + 1 → f i < w.heap.size) :
    PopP lb bb (t + 1) m cp x f h n w (.returned (arr5 (lastEnt (t + 1) m x))) (setN w2 w.heap.size 0 (fun q => .int .u32 (x t (m t - 1) q)) 5) := by
  have O5 := Only.setN w2 w.heap.size 0 (fun q => .int .u32 (x t (m t - 1) q)) 5
  refine ⟨rfl, O2.trans' O5 (fun i hi => by simp at hi; exact .inr (by omega)), ba, K', L2.keep1 O5 (by omega) (fun b _ e _ => by have := hba b e; omega) (fun i hi => ?_)⟩
  have : kk (t + 1) m n ≤ t + 1 := by unfold kk; split; omega; split <;> omega
  have := hf i (by omega)
  omega
set_option maxRecDepth 100000 in
set_option maxHeartbeats 4000000 in
theorem popBack34 (lb bb k K : Nat) (m cp : Nat → Nat) (x : Nat → Nat → Nat → Int) (f : Nat → Nat) (h n : Int) (w : World) (H : ListAt w lb (some ⟨bb, 0, none⟩) k K m cp x f h n) (hk : 0 < k) (hk2 : k ≤ 65536) (hkK : k ≤ K)
    (hm : ∀ i, i < k → 1 ≤ m i ∧ m i ≤ cp i ∧ cp i ≤ 4096) (hn : 1 ≤ n) (hn2 : n ≤ 9223372036854775807) :
    Calls Try.prog 34 #[.pointer (some ⟨lb, 0, none⟩)] w fun e w' => PopP lb bb k m cp x f h n w e w' := by
  obtain ⟨t, rfl⟩ : ∃ t, k = t + 1 := ⟨k - 1, by omega⟩
  obtain ⟨hm1, hm2, hm3⟩ := hm t (by omega)
  have hlb := H.rh.lt
  obtain ⟨bb', e, rb⟩ := H.rb hk
  cases e
  have hbb := rb.lt
  have hf : ∀ i, i < t + 1 → f i < w.heap.size := fun i hi => (H.rf i hi).lt
  have hne := H.rh.ne rb (by decide)
  obtain ⟨wA, hwA, rA, OA, zA⟩ := newArr w (fun _ => 0) 84
  obtain ⟨wB, hwB, rB, OB, zB⟩ := newArr wA (fun q => x t (m t - 1) q) 84
  have bA : wB.heap[w.heap.size]? = some (.cells #[.int .u32 0, .int .u32 0, .int .u32 0, .int .u32 0, .int .u32 0] 84 (0, 0)) := by
    rw [OB.block _ (by omega) (by simp), hwA]; exact heap_alloc_new w _
  have HA : Hid (wA = _) := hwA
  have HB : Hid (wB = _) := hwB
  have ZA : Hid (wA.heap.size = w.heap.size + 1) := zA
  have ZB : Hid (wB.heap.size = wA.heap.size + 1) := zB
  clear hwA hwB zA zB rA
  -- at wA
  have HAt := H.keep OA
  have a0 : wA.cell? ⟨lb, 0, none⟩ = some (.slice (some ⟨bb, 0, none⟩) (t + 1) K) := HAt.rh.cell (i := 0) (by omega)
  have a1 := (rb.keep OA (by simp)).cell (i := t) (by omega)
  have ee : ∀ q, q < 5 → wA.cell? ⟨f t, (m t - 1) * 5 + q, none⟩ = some (.int .u32 (x t (m t - 1) q)) := fun q hq => by
    rw [(HAt.rf t (by omega)).cell (by omega)]
    unfold cells5
    rw [show ((m t - 1) * 5 + q) / 5 = m t - 1 by omega, show ((m t - 1) * 5 + q) % 5 = q by omega]
  have e0 := ee 0 (by omega)
  have e1 := ee 1 (by omega)
  have e2 := ee 2 (by omega)
  have e3 := ee 3 (by omega)
  have e4 := ee 4 (by omega)
  simp only [Nat.add_zero] at e0
  have ix80 : ∀ w0 : World, (Instr.indexAt 80 (.slice (some ⟨f t, 0, none⟩) (m t) (cp t)) (.int .i64 ((m t : Int) - 1))).run Try.prog w0 = .ok (.pointer (some ⟨f t, (m t - 1) * 5, none⟩)) w0 := fun w0 => by
    have h := run_at (P := Try.prog) 80 84 (some ⟨f t, 0, none⟩) (m t) (cp t) (f t) 0 5 .i64 (m t - 1) Try.underlying80 Try.size84 rfl (by omega) w0
    rwa [Nat.zero_add, show ((m t - 1 : Nat) : Int) = (m t : Int) - 1 by omega] at h
  -- at w1
  have HBt := HAt.keep OB
  have b2 : wB.cell? ⟨lb, 2, none⟩ = some (.int .i64 n) := HBt.rh.cell (i := 2) (by omega)
  have fb2 := HBt.rh.frozen 2
  obtain ⟨w1, hw1⟩ : ∃ w1, w1 = wB.setCell ⟨lb, 2, none⟩ (.int .i64 (n - 1)) := ⟨_, rfl⟩
  have O1 : Only [lb] wB w1 := by rw [hw1]; exact (Only.refl _ _).set lb 2 _ (.inl (by simp))
  have rh1 : Row w1 lb 79 3 (hdr (some ⟨bb, 0, none⟩) (t + 1) K h (n - 1)) := by
    rw [hw1]
    refine (HBt.rh.set 2 _).ext (fun i hi => ?_)
    obtain rfl | rfl | rfl : i = 0 ∨ i = 1 ∨ i = 2 := by omega
    all_goals rfl
  have rb1 := ((rb.keep OA (by simp)).keep OB (by simp)).keep O1 (by simpa using Ne.symm hne)
  have rf1 : ∀ i, i < t + 1 → Row w1 (f i) 84 (m i * 5) (cells5 x i) := fun i hi => (HBt.rf i hi).keep O1 (by have := (HBt.rf i hi).ne HBt.rh (by decide); simpa using this)
  have rP1 := rB.keep O1 (by have := ZA.out; simp; omega)
  have bA1 := (O1.block _ (lt_of_block bA) (by simp; omega)).trans bA
  have Ow1 : Only [lb, bb] w w1 := ((OA.mono (by simp)).trans (OB.mono (by simp))).trans (O1.mono (by simp))
  have HW1 : Hid (w1 = _) := hw1
  have hz1 := O1.size
  clear hw1 O1 rB OA OB HAt HBt ee bA rb H hm
  go_enter Try.func34, Try.ntmps34
  go_upto_region 1 with fail
  rw [← HA.out]
  go_upto_region 4 with fail
  rw [← HB.out]
  clear a0 a1 e0 e1 e2 e3 e4 ix80
  go_upto_region 6 with fail
  rw [← HW1.out]
  clear b2 fb2
  have c2 : w1.cell? ⟨lb, 2, none⟩ = some (.int .i64 (n - 1)) := rh1.cell (i := 2) (by omega)
  by_cases hn1 : n = 1
  · have hb : (n - 1 == 0) = true := by simp; omega
    have HN : Hid (n = 1) := hn1
    clear hn1
    go_wp2_with fail
    have hsA := ZA.out
    refine (clear36 lb _ w1 rh1).mono ?_
    rintro e w2 ⟨rfl, hw2⟩
    have O2 : Only [lb] w1 w2 := by rw [hw2]; exact Only.setN _ _ _ _ _
    have rh2 : Row w2 lb 79 3 (hdr none 0 0 0 0) := by
      rw [hw2]
      refine (rh1.setN 0 _ 3).ext (fun i hi => ?_)
      rw [if_pos ⟨by omega, by omega⟩]; rfl
    have L2 : ListAt w2 lb none (kk (t + 1) m n) 0 (mm (t + 1) m) cp x f (if n = 1 then 0 else h) (n - 1) := by
      rw [HN.out]
      exact ⟨rh2, fun h => absurd h (by simp [kk]), fun i hi => absurd hi (by simp [kk])⟩
    have Ow2 := Ow1.trans (O2.mono (S' := [lb, bb]) (by simp))
    have bA2 := (O2.block _ (lt_of_block bA1) (by simp; omega)).trans bA1
    have rP2 := rP1.keep O2 (by simp; omega)
    have FIN : Hid (PopP lb bb (t + 1) m cp x f h n w (.returned (arr5 (lastEnt (t + 1) m x))) (setN w2 w.heap.size 0 (fun q => .int .u32 (x t (m t - 1) q)) 5)) := pop_fin L2 Ow2 hlb (fun b e => by cases e) hbb hf
    have HL : Hid ((setN w2 w.heap.size 0 (fun q => .int .u32 (x t (m t - 1) q)) 5).heap[w.heap.size]? = some (.cells #[.int .u32 (x t (m t - 1) 0), .int .u32 (x t (m t - 1) 1), .int .u32 (x t (m t - 1) 2), .int .u32 (x t (m t - 1) 3), .int .u32 (x t (m t - 1) 4)] 84 (0, 0))) := last5 (fun q => .int .u32 (x t (m t - 1) q)) bA2
    have p0 : w2.cell? ⟨wA.heap.size, 0, none⟩ = some (.int .u32 (x t (m t - 1) 0)) := rP2.cell (i := 0) (by omega)
    have p1 : w2.cell? ⟨wA.heap.size, 1, none⟩ = some (.int .u32 (x t (m t - 1) 1)) := rP2.cell (i := 1) (by omega)
    have p2 : w2.cell? ⟨wA.heap.size, 2, none⟩ = some (.int .u32 (x t (m t - 1) 2)) := rP2.cell (i := 2) (by omega)
    have p3 : w2.cell? ⟨wA.heap.size, 3, none⟩ = some (.int .u32 (x t (m t - 1) 3)) := rP2.cell (i := 3) (by omega)
    have p4 : w2.cell? ⟨wA.heap.size, 4, none⟩ = some (.int .u32 (x t (m t - 1) 4)) := rP2.cell (i := 4) (by omega)
    have RZ := Row.of_block bA2
    have z0 : w2.cell? ⟨w.heap.size, 0, none⟩ = some (.int .u32 0) := RZ.cell (i := 0) (by simp)
    have z1 : w2.cell? ⟨w.heap.size, 1, none⟩ = some (.int .u32 0) := RZ.cell (i := 1) (by simp)
    have z2 : w2.cell? ⟨w.heap.size, 2, none⟩ = some (.int .u32 0) := RZ.cell (i := 2) (by simp)
    have z3 : w2.cell? ⟨w.heap.size, 3, none⟩ = some (.int .u32 0) := RZ.cell (i := 3) (by simp)
    have z4 : w2.cell? ⟨w.heap.size, 4, none⟩ = some (.int .u32 0) := RZ.cell (i := 4) (by simp)
    have fzz := fun i => RZ.frozen i
    clear hw2 O2 rh2 L2 Ow2 bA2 rP2 RZ rh1 rb1 rf1 rP1 bA1 Ow1 c2 hf hsA
    go_wp2
    (try simp only [Exit.inBlock, Exit.then])
    refine bodyPost_ret (results_cell_row rfl _ _ w.heap.size 84 _ (0, 0) _ rfl HL.out Try.underlying84 rfl Try.size84) rfl ?_
    exact FIN.out
  · have hb : (n - 1 == 0) = false := by simp; omega
    have HN : Hid (n ≠ 1) := hn1
    clear hn1
    have c0 : w1.cell? ⟨lb, 0, none⟩ = some (.slice (some ⟨bb, 0, none⟩) (t + 1) K) := rh1.cell (i := 0) (by omega)
    have d0 := rb1.cell (i := t) (by omega)
    have fd := rb1.frozen t
    by_cases hmt : m t = 1
    · have hb2 : ((m t : Int) == 1) = true := by simp; omega
      have HM : Hid (m t = 1) := hmt
      clear hmt
      have hcut : ∀ w0 : World, (Instr.slice 77 (.slice (some ⟨bb, 0, none⟩) (t + 1) K) none (some (.int .i64 (t : Int))) none).run Try.prog w0 = .ok (.slice (some ⟨bb, 0, none⟩) t K) w0 := fun w0 => by
        have h := run_cut_last (P := Try.prog) 77 80 bb (t + 1) K 1 Try.underlying77 Try.size80 (by omega) hkK w0
        rwa [show (((t + 1 : Nat)) : Int) - 1 = (t : Int) by omega, show t + 1 - 1 = t by omega] at h
      have hsA := ZA.out
      obtain ⟨wm, hwm⟩ : ∃ wm, wm = w1.setCell ⟨bb, t, none⟩ (.slice none 0 0) := ⟨_, rfl⟩
      have Om : Only [bb] w1 wm := by rw [hwm]; exact (Only.refl _ _).set bb t _ (.inl (by simp))
      have rhm := rh1.keep Om (by simpa using hne)
      have rbm : Row wm bb 80 t (fun i => .slice (some ⟨f i, 0, none⟩) (m i) (cp i)) := by
        rw [hwm]
        refine ((rb1.set t _).less (Nat.le_succ t)).ext (fun i hi => upd_ne _ _ (by omega))
      have cm := rhm.cell (i := 0) (by omega)
      have cm' : wm.cell? ⟨lb, 0, none⟩ = some (.slice (some ⟨bb, 0, none⟩) (t + 1) K) := cm
      have fm := rhm.frozen 0
      obtain ⟨w2, hw2⟩ : ∃ w2, w2 = wm.setCell ⟨lb, 0, none⟩ (.slice (some ⟨bb, 0, none⟩) t K) := ⟨_, rfl⟩
      have O2 : Only [lb] wm w2 := by rw [hw2]; exact (Only.refl _ _).set lb 0 _ (.inl (by simp))
      have Ow2 := (Ow1.trans (Om.mono (S' := [lb, bb]) (by simp))).trans (O2.mono (S' := [lb, bb]) (by simp))
      have L2 : ListAt w2 lb (some ⟨bb, 0, none⟩) (kk (t + 1) m n) K (mm (t + 1) m) cp x f (if n = 1 then 0 else h) (n - 1) := by
        have e1 : kk (t + 1) m n = t := by unfold kk; rw [if_neg HN.out, if_pos (show m (t + 1 - 1) = 1 from HM.out)]; omega
        rw [e1, if_neg HN.out]
        refine ⟨?_, fun _ => ⟨bb, rfl, ?_⟩, fun i hi => ?_⟩
        · rw [hw2]
          refine (rhm.set 0 _).ext (fun i hi => ?_)
          obtain rfl | rfl | rfl : i = 0 ∨ i = 1 ∨ i = 2 := by omega
          all_goals rfl
        · refine (rbm.keep O2 (by simpa using Ne.symm hne)).ext (fun i hi => ?_)
          rw [mm, if_neg (by omega)]
        · have e : mm (t + 1) m i = m i := by rw [mm, if_neg (by omega)]
          rw [e]
          have r := rf1 i (by omega)
          exact (r.keep Om (by have := r.ne rb1 (by decide); simpa using this)).keep O2 (by have := r.ne rh1 (by decide); simpa using this)
      have bA2 := (O2.block _ (Nat.lt_of_lt_of_le (lt_of_block bA1) Om.size) (by simp; omega)).trans ((Om.block _ (lt_of_block bA1) (by simp; omega)).trans bA1)
      have rP2 := (rP1.keep Om (by simp; omega)).keep O2 (by simp; omega)
      have FIN : Hid (PopP lb bb (t + 1) m cp x f h n w (.returned (arr5 (lastEnt (t + 1) m x))) (setN w2 w.heap.size 0 (fun q => .int .u32 (x t (m t - 1) q)) 5)) := pop_fin L2 Ow2 hlb (fun b e => by cases e; rfl) hbb hf
      have HL : Hid ((setN w2 w.heap.size 0 (fun q => .int .u32 (x t (m t - 1) q)) 5).heap[w.heap.size]? = some (.cells #[.int .u32 (x t (m t - 1) 0), .int .u32 (x t (m t - 1) 1), .int .u32 (x t (m t - 1) 2), .int .u32 (x t (m t - 1) 3), .int .u32 (x t (m t - 1) 4)] 84 (0, 0))) := last5 (fun q => .int .u32 (x t (m t - 1) q)) bA2
      have p0 : w2.cell? ⟨wA.heap.size, 0, none⟩ = some (.int .u32 (x t (m t - 1) 0)) := rP2.cell (i := 0) (by omega)
      have p1 : w2.cell? ⟨wA.heap.size, 1, none⟩ = some (.int .u32 (x t (m t - 1) 1)) := rP2.cell (i := 1) (by omega)
      have p2 : w2.cell? ⟨wA.heap.size, 2, none⟩ = some (.int .u32 (x t (m t - 1) 2)) := rP2.cell (i := 2) (by omega)
      have p3 : w2.cell? ⟨wA.heap.size, 3, none⟩ = some (.int .u32 (x t (m t - 1) 3)) := rP2.cell (i := 3) (by omega)
      have p4 : w2.cell? ⟨wA.heap.size, 4, none⟩ = some (.int .u32 (x t (m t - 1) 4)) := rP2.cell (i := 4) (by omega)
      have RZ := Row.of_block bA2
      have z0 : w2.cell? ⟨w.heap.size, 0, none⟩ = some (.int .u32 0) := RZ.cell (i := 0) (by simp)
      have z1 : w2.cell? ⟨w.heap.size, 1, none⟩ = some (.int .u32 0) := RZ.cell (i := 1) (by simp)
      have z2 : w2.cell? ⟨w.heap.size, 2, none⟩ = some (.int .u32 0) := RZ.cell (i := 2) (by simp)
      have z3 : w2.cell? ⟨w.heap.size, 3, none⟩ = some (.int .u32 0) := RZ.cell (i := 3) (by simp)
      have z4 : w2.cell? ⟨w.heap.size, 4, none⟩ = some (.int .u32 0) := RZ.cell (i := 4) (by simp)
      have fzz := fun i => RZ.frozen i
      have HM1 : Hid (wm = _) := hwm
      have HM2 : Hid (w2 = _) := hw2
      clear hwm hw2 O2 Om L2 Ow2 bA2 rP2 RZ rh1 rb1 rf1 rP1 bA1 Ow1 hf rhm rbm cm hsA
      go_upto_region 10 with fail
      rw [← HM1.out]
      go_upto_region 11 with fail
      rw [← HM2.out]
      go_wp2
      (try simp only [Exit.inBlock, Exit.then])
      refine bodyPost_ret (results_cell_row rfl _ _ w.heap.size 84 _ (0, 0) _ rfl HL.out Try.underlying84 rfl Try.size84) rfl ?_
      exact FIN.out
    · have hb2 : ((m t : Int) == 1) = false := by simp; omega
      have HM : Hid (m t ≠ 1) := hmt
      clear hmt
      have hcut : ∀ w0 : World, (Instr.slice 80 (.slice (some ⟨f t, 0, none⟩) (m t) (cp t)) none (some (.int .i64 ((m t : Int) - 1))) none).run Try.prog w0 = .ok (.slice (some ⟨f t, 0, none⟩) (m t - 1) (cp t)) w0 := fun w0 =>
        run_cut_last (P := Try.prog) 80 84 (f t) (m t) (cp t) 5 Try.underlying80 Try.size84 (by omega) hm2 w0
      have hsA := ZA.out
      obtain ⟨w2, hw2⟩ : ∃ w2, w2 = (w1.setCell ⟨bb, t, none⟩ (.slice (some ⟨f t, 0, none⟩) (m t - 1) (cp t))).drew := ⟨_, rfl⟩
      have O2 : Only [bb] w1 w2 := by rw [hw2]; exact ((Only.refl _ _).set bb t _ (.inl (by simp))).trans (Only.drew _ _)
      have Ow2 := Ow1.trans (O2.mono (S' := [lb, bb]) (by simp))
      have L2 : ListAt w2 lb (some ⟨bb, 0, none⟩) (kk (t + 1) m n) K (mm (t + 1) m) cp x f (if n = 1 then 0 else h) (n - 1) := by
        have e1 : kk (t + 1) m n = t + 1 := by unfold kk; rw [if_neg HN.out, if_neg (show ¬ m (t + 1 - 1) = 1 from HM.out)]
        rw [e1, if_neg HN.out]
        refine ⟨rh1.keep O2 (by simpa using hne), fun _ => ⟨bb, rfl, ?_⟩, fun i hi => ?_⟩
        · rw [hw2]
          refine ((rb1.set t _).ext (fun i hi => ?_)).drew
          by_cases e : i = t
          · subst e; rw [upd_at, mm, if_pos rfl]
          · rw [upd_ne _ _ e, mm, if_neg (by omega)]
        · have r := (rf1 i hi).keep O2 (by have := (rf1 i hi).ne rb1 (by decide); simpa using this)
          refine r.less ?_
          unfold mm
          split <;> omega
      have bA2 := (O2.block _ (lt_of_block bA1) (by simp; omega)).trans bA1
      have rP2 := rP1.keep O2 (by simp; omega)
      have FIN : Hid (PopP lb bb (t + 1) m cp x f h n w (.returned (arr5 (lastEnt (t + 1) m x))) (setN w2 w.heap.size 0 (fun q => .int .u32 (x t (m t - 1) q)) 5)) := pop_fin L2 Ow2 hlb (fun b e => by cases e; rfl) hbb hf
      have HL : Hid ((setN w2 w.heap.size 0 (fun q => .int .u32 (x t (m t - 1) q)) 5).heap[w.heap.size]? = some (.cells #[.int .u32 (x t (m t - 1) 0), .int .u32 (x t (m t - 1) 1), .int .u32 (x t (m t - 1) 2), .int .u32 (x t (m t - 1) 3), .int .u32 (x t (m t - 1) 4)] 84 (0, 0))) := last5 (fun q => .int .u32 (x t (m t - 1) q)) bA2
      have p0 : w2.cell? ⟨wA.heap.size, 0, none⟩ = some (.int .u32 (x t (m t - 1) 0)) := rP2.cell (i := 0) (by omega)
      have p1 : w2.cell? ⟨wA.heap.size, 1, none⟩ = some (.int .u32 (x t (m t - 1) 1)) := rP2.cell (i := 1) (by omega)
      have p2 : w2.cell? ⟨wA.heap.size, 2, none⟩ = some (.int .u32 (x t (m t - 1) 2)) := rP2.cell (i := 2) (by omega)
      have p3 : w2.cell? ⟨wA.heap.size, 3, none⟩ = some (.int .u32 (x t (m t - 1) 3)) := rP2.cell (i := 3) (by omega)
      have p4 : w2.cell? ⟨wA.heap.size, 4, none⟩ = some (.int .u32 (x t (m t - 1) 4)) := rP2.cell (i := 4) (by omega)
      have RZ := Row.of_block bA2
      have z0 : w2.cell? ⟨w.heap.size, 0, none⟩ = some (.int .u32 0) := RZ.cell (i := 0) (by simp)
      have z1 : w2.cell? ⟨w.heap.size, 1, none⟩ = some (.int .u32 0) := RZ.cell (i := 1) (by simp)
      have z2 : w2.cell? ⟨w.heap.size, 2, none⟩ = some (.int .u32 0) := RZ.cell (i := 2) (by simp)
      have z3 : w2.cell? ⟨w.heap.size, 3, none⟩ = some (.int .u32 0) := RZ.cell (i := 3) (by simp)
      have z4 : w2.cell? ⟨w.heap.size, 4, none⟩ = some (.int .u32 0) := RZ.cell (i := 4) (by simp)
      have fzz := fun i => RZ.frozen i
      have HM2 : Hid (w2 = _) := hw2
      clear hw2 O2 L2 Ow2 bA2 rP2 RZ rh1 rb1 rf1 rP1 bA1 Ow1 hf hsA
      go_upto_region 5 with fail
      go_region
      rw [← HM2.out]
      clear c0 c2 d0 fd hcut
      go_wp2
      (try simp only [Exit.inBlock, Exit.then])
      refine bodyPost_ret (results_cell_row rfl _ _ w.heap.size 84 _ (0, 0) _ rfl HL.out Try.underlying84 rfl Try.size84) rfl ?_
      exact FIN.out
/-- ZZPopBack hands the entry on as an array. -/
def PopQ (lb bb k : Nat) (m cp : Nat → Nat) (x : Nat → Nat → Nat → Int) (f : Nat → Nat) (h n : Int) (w : World) (e : Ending) (w' : World) : Prop :=
  e = .returned (arr5 (lastEnt k m x)) ∧ Only [lb, bb] w w' ∧ ∃ ba K', ListAt w' lb ba (kk k m n) K' (mm k m) cp x f (if n = 1 then 0 else h) (n - 1)
set_option maxRecDepth 100000 in
set_option maxHeartbeats 4000000 in
theorem zzPopBack27 (lb bb k K : Nat) (m cp : Nat → Nat) (x : Nat → Nat → Nat → Int) (f : Nat → Nat) (h n : Int) (w : World) (H : ListAt w lb (some ⟨bb, 0, none⟩) k K m cp x f h n) (hk : 0 < k) (hk2 : k ≤ 65536) (hkK : k ≤ K)
    (hm : ∀ i, i < k → 1 ≤ m i ∧ m i ≤ cp i ∧ cp i ≤ 4096) (hn : 1 ≤ n) (hn2 : n ≤ 9223372036854775807) :
    Calls Try.prog 27 #[.pointer (some ⟨lb, 0, none⟩)] w fun e w' => PopQ lb bb k m cp x f h n w e w' := by
  have hlb := H.rh.lt
  obtain ⟨bb', e, rb⟩ := H.rb hk
  cases e
  have hbb := rb.lt
  obtain ⟨wA, hwA, rA, OA, zA⟩ := newArr w (fun _ => 0) 60
  have bA : wA.heap[w.heap.size]? = some (.cells #[.int .u32 0, .int .u32 0, .int .u32 0, .int .u32 0, .int .u32 0] 60 (0, 0)) := by
    rw [hwA]; exact heap_alloc_new w _
  have HA : Hid (wA = _) := hwA
  clear hwA
  go_enter Try.func27, Try.ntmps27
  go_wp2_with fail
  rw [← HA.out]
  refine (popBack34 lb bb k K m cp x f h n wA (H.keep OA) hk hk2 hkK hm hn hn2).mono ?_
  rintro e w2 ⟨rfl, O2, ba, K', L2⟩
  obtain ⟨wB, hwB, rB, OB, zB⟩ := newArr w2 (lastEnt k m x) 84
  have hs2 := O2.size
  have bB := (OB.block _ (by omega) (by simp)).trans ((O2.block _ (lt_of_block bA) (by simp; omega)).trans bA)
  have O5 := Only.setN wB w.heap.size 0 (fun q => .int .u32 (lastEnt k m x q)) 5
  have LB := (L2.keep OB)
  have L5 : ListAt (setN wB w.heap.size 0 (fun q => .int .u32 (lastEnt k m x q)) 5) lb ba (kk k m n) K' (mm k m) cp x f (if n = 1 then 0 else h) (n - 1) := by
    have RZ := Row.of_block bB
    exact LB.keep1 O5 (by omega) (fun b _ _ r => r.ne RZ (by decide)) (fun i hi => (LB.rf i hi).ne RZ (by decide))
  have FIN : Hid (PopQ lb bb k m cp x f h n w (.returned (arr5 (lastEnt k m x))) (setN wB w.heap.size 0 (fun q => .int .u32 (lastEnt k m x q)) 5)) :=
    ⟨rfl, ((((OA.mono (by simp)).trans O2).trans (OB.mono (by simp))).trans' O5 (fun i hi => by simp at hi; exact .inr (by omega))), ba, K', L5⟩
  have HL : Hid ((setN wB w.heap.size 0 (fun q => .int .u32 (lastEnt k m x q)) 5).heap[w.heap.size]? = some (.cells #[.int .u32 (lastEnt k m x 0), .int .u32 (lastEnt k m x 1), .int .u32 (lastEnt k m x 2), .int .u32 (lastEnt k m x 3), .int .u32 (lastEnt k m x 4)] 60 (0, 0))) := last5 (fun q => .int .u32 (lastEnt k m x q)) bB
  have p0 : wB.cell? ⟨w2.heap.size, 0, none⟩ = some (.int .u32 (lastEnt k m x 0)) := rB.cell (i := 0) (by omega)
  have p1 : wB.cell? ⟨w2.heap.size, 1, none⟩ = some (.int .u32 (lastEnt k m x 1)) := rB.cell (i := 1) (by omega)
  have p2 : wB.cell? ⟨w2.heap.size, 2, none⟩ = some (.int .u32 (lastEnt k m x 2)) := rB.cell (i := 2) (by omega)
  have p3 : wB.cell? ⟨w2.heap.size, 3, none⟩ = some (.int .u32 (lastEnt k m x 3)) := rB.cell (i := 3) (by omega)
  have p4 : wB.cell? ⟨w2.heap.size, 4, none⟩ = some (.int .u32 (lastEnt k m x 4)) := rB.cell (i := 4) (by omega)
  have RZ := Row.of_block bB
  have z0 : wB.cell? ⟨w.heap.size, 0, none⟩ = some (.int .u32 0) := RZ.cell (i := 0) (by simp)
  have z1 : wB.cell? ⟨w.heap.size, 1, none⟩ = some (.int .u32 0) := RZ.cell (i := 1) (by simp)
  have z2 : wB.cell? ⟨w.heap.size, 2, none⟩ = some (.int .u32 0) := RZ.cell (i := 2) (by simp)
  have z3 : wB.cell? ⟨w.heap.size, 3, none⟩ = some (.int .u32 0) := RZ.cell (i := 3) (by simp)
  have z4 : wB.cell? ⟨w.heap.size, 4, none⟩ = some (.int .u32 0) := RZ.cell (i := 4) (by simp)
  have fzz := fun i => RZ.frozen i
  have HB : Hid (wB = _) := hwB
  clear hwB RZ L5 LB O5 bB rB OB zB zA L2 O2 hs2 bA OA rA H hm rb
  unfold arr5
  go_upto_region 2 with fail
  rw [← HB.out]
  go_wp2
  (try simp only [Exit.inBlock, Exit.then])
  refine bodyPost_ret (results_cell_row rfl _ _ w.heap.size 60 _ (0, 0) _ rfl HL.out Try.underlying60 rfl Try.size60) rfl ?_
  exact FIN.out
end Go.Proofs.Qxb6602566a
