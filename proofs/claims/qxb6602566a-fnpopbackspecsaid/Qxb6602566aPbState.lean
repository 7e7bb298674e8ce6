/-
  ZZListState: an entryList read out as plain data.
-/
import Derived.Test.Qxb6602566aPbPop
import Derived.Test.Qxb6602566aPbShape
namespace Go.Proofs.Qxb6602566a
open Go.RowKit
set_option linter.unusedVariables false

structure AtS (k : Nat) (m cp : Nat → Nat) (x : Nat → Nat → Nat → Int) (w wr : World) (i : Nat) (g : Nat → Nat) : Prop where
  rs : Row wr w.heap.size 52 k (fun j => if j < i then .slice (some ⟨g j, 0, none⟩) (m j) (m j) else .slice none 0 0)
  rc : Row wr (w.heap.size + 1) 3 k (fun j => if j < i then .int .i64 (cp j) else .int .i64 0)
  rg : ∀ j, j < i → Row wr (g j) 60 (m j * 5) (cells5 x j)
  ol : Only [] w wr
theorem AtS.start (k : Nat) (m cp : Nat → Nat) (x : Nat → Nat → Nat → Int) (w : World) : AtS k m cp x w ((w.alloc (.cells (Array.replicate k (.slice none 0 0)) 52)).alloc (.cells (Array.replicate k (.int .i64 0)) 3)) 0 (fun _ => 0) := by
  refine ⟨?_, ?_, fun i hi => by omega, (Only.alloc _ _ _).trans (Only.alloc _ _ _)⟩
  · exact ((Row.zeros w k (.slice none 0 0) 52).alloc _).ext (fun i _ => by simp)
  · have h1 := Row.zeros (w.alloc (.cells (Array.replicate k (.slice none 0 0)) 52)) k (.int .i64 0) 3
    rw [World.size_alloc] at h1
    exact h1.ext (fun i _ => by simp)
theorem AtS.keep {k : Nat} {m cp : Nat → Nat} {x : Nat → Nat → Nat → Int} {w wr w' : World} {i : Nat} {g : Nat → Nat} (H : AtS k m cp x w wr i g) (O : Only [] wr w') : AtS k m cp x w w' i g :=
  ⟨H.rs.keep O (by simp), H.rc.keep O (by simp), fun i hi => (H.rg i hi).keep O (by simp), H.ol.trans O⟩
theorem AtS.keep1 {k : Nat} {m cp : Nat → Nat} {x : Nat → Nat → Nat → Int} {w wr w' : World} {i c : Nat} {g : Nat → Nat} (H : AtS k m cp x w wr i g) (O : Only [c] wr w') (h1 : w.heap.size + 1 < c) (h3 : ∀ j, j < i → g j < c) : AtS k m cp x w w' i g :=
  ⟨H.rs.keep O (by simp; omega), H.rc.keep O (by simp; omega), fun i hi => (H.rg i hi).keep O (by have := h3 i hi; simp; omega), H.ol.trans' O (fun i hi => by simp at hi; omega)⟩
theorem AtS.next {k : Nat} {m cp : Nat → Nat} {x : Nat → Nat → Nat → Int} {w wj : World} {i c : Nat} {g : Nat → Nat} (H : AtS k m cp x w wj i g) (hi : i < k) (rc : Row wj c 60 (m i * 5) (cells5 x i)) :
    ∃ g', AtS k m cp x w ((wj.setCell ⟨w.heap.size, i, none⟩ (.slice (some ⟨c, 0, none⟩) (m i) (m i))).setCell ⟨w.heap.size + 1, i, none⟩ (.int .i64 (cp i))) (i + 1) g' := by
  refine ⟨fun j => if j = i then c else g j, ((H.rs.set i _).other _ _ (by omega) _).ext (fun j hj => ?_), ((H.rc.other _ _ (by omega) _).set i _).ext (fun j hj => ?_), fun j hj => ?_, (H.ol.set _ _ _ (.inr (Nat.le_refl _))).set _ _ _ (.inr (by omega))⟩
  · by_cases e : j = i
    · subst e; rw [upd_at, if_pos (by omega)]; simp
    · rw [upd_ne _ _ e]
      by_cases h1 : j < i
      · rw [if_pos h1, if_pos (by omega)]; simp [e]
      · rw [if_neg h1, if_neg (by omega)]
  · by_cases e : j = i
    · subst e; rw [upd_at, if_pos (by omega)]
    · rw [upd_ne _ _ e]
      by_cases h1 : j < i
      · rw [if_pos h1, if_pos (by omega)]
      · rw [if_neg h1, if_neg (by omega)]
  · by_cases e : j = i
    · subst e; simp only [if_pos]; exact (rc.other _ _ (rc.ne H.rs (by decide)) _).other _ _ (rc.ne H.rc (by decide)) _
    · simp only [if_neg e]
      have r := H.rg j (by omega)
      exact (r.other _ _ (r.ne H.rs (by decide)) _).other _ _ (r.ne H.rc (by decide)) _
theorem results_tmp4 {fn : Func} {t u v x : Tmp} (h : fn.results = #[.tmp t, .tmp u, .tmp v, .tmp x]) (tmps : Array Value) (P : Program) (w : World) :
    (results fn tmps).run P w = .ok (.tuple #[tmps.getD t undef, tmps.getD u undef, tmps.getD v undef, tmps.getD x undef]) w := by
  simp [results, h]
/-- The list's state as the law reads it. -/
def StateP (k : Nat) (m cp : Nat → Nat) (x : Nat → Nat → Nat → Int) (h n : Int) (w : World) (e : Ending) (w' : World) : Prop :=
  ∃ g : Nat → Nat, e = .returned (.tuple #[.slice (some ⟨w.heap.size, 0, none⟩) k k, .slice (some ⟨w.heap.size + 1, 0, none⟩) k k, .int .i64 h, .int .i64 n]) ∧
    Row w' w.heap.size 52 k (fun j => .slice (some ⟨g j, 0, none⟩) (m j) (m j)) ∧ Row w' (w.heap.size + 1) 3 k (ints cp) ∧ (∀ j, j < k → Row w' (g j) 60 (m j * 5) (cells5 x j)) ∧ Only [] w w'
set_option maxRecDepth 100000 in
set_option maxHeartbeats 4000000 in
theorem listState23 (lb : Nat) (ba : Option Addr) (k K : Nat) (m cp : Nat → Nat) (x : Nat → Nat → Nat → Int) (f : Nat → Nat) (h n : Int) (w : World) (L : ListAt w lb ba k K m cp x f h n) (hk : k ≤ 65536) (hm : ∀ i, i < k → m i ≤ 4096) (hc : ∀ i, i < k → cp i ≤ 4096) :
    Calls Try.prog 23 #[.pointer (some ⟨lb, 0, none⟩)] w fun e w' => StateP k m cp x h n w e w' := by
  have mk1 : ∀ w : World, (Instr.makeSlice 44 (.int .i64 (k : Int)) (.int .i64 (k : Int))).run Try.prog w = .ok (.slice (some ⟨w.heap.size, 0, none⟩) k k) (w.alloc (.cells (Array.replicate k (.slice none 0 0)) 52)) := fun w => by
    have h := run_make_list (P := Try.prog) 44 52 (.slice none 0 0) (.slice none 0 0) 1 24 k Try.underlying44 Try.info52 rfl (by omega) .i64 .i64 (by omega) (by omega) w
    simpa using h
  have mk2 : ∀ w : World, (Instr.makeSlice 37 (.int .i64 (k : Int)) (.int .i64 (k : Int))).run Try.prog w = .ok (.slice (some ⟨w.heap.size, 0, none⟩) k k) (w.alloc (.cells (Array.replicate k (.int .i64 0)) 3)) := fun w => by
    have h := run_make_list (P := Try.prog) 37 3 (.int .i64 0) (.int .i64 0) 1 8 k Try.underlying37 Try.info3 rfl (by omega) .i64 .i64 (by omega) (by omega) w
    simpa using h
  have c0 : w.cell? ⟨lb, 0, none⟩ = some (.slice ba k K) := L.rh.cell (i := 0) (by omega)
  have c0a := fun o => (Only.alloc [] w o).cell (by simp) c0
  have S0 := AtS.start k m cp x w
  go_enter Try.func23, Try.ntmps23
  go_wp2
  go_loopw [8] (fun i wr => ∃ (j : Nat) (g : Nat → Nat), j ≤ k ∧ i = .int .i64 j ∧ AtS k m cp x w wr j g) (fun i _ => k - (intOf i).toNat)
  case atStart => exact ⟨0, _, by omega, rfl, S0⟩
  case round =>
    clear S0 mk1 mk2 c0a
    obtain ⟨i, g, hi, rfl, H⟩ := hrel
    have Lr := L.keep H.ol
    have c0r : wr.cell? ⟨lb, 0, none⟩ = some (.slice ba k K) := Lr.rh.cell (i := 0) (by omega)
    clear c0
    by_cases hlt : i < k
    · obtain ⟨bb, hba, rb⟩ := Lr.rb (by omega)
      have ix := run_at1 (P := Try.prog) 77 80 ba k K bb 0 .i64 i Try.underlying77 Try.size80 hba hlt
      simp only [Nat.zero_add] at ix
      have d0 := rb.cell hlt
      have mi := hm i hlt
      have ci := hc i hlt
      have mk3 : ∀ w : World, (Instr.makeSlice 52 (.int .i64 (m i : Int)) (.int .i64 (m i : Int))).run Try.prog w = .ok (.slice (some ⟨w.heap.size, 0, none⟩) (m i) (m i)) (w.alloc (.cells (Array.replicate (m i * 5) (.int .u32 0)) 60)) := fun w => run_make_list (P := Try.prog) 52 60 (.int .u32 0) z60 5 20 (m i) Try.underlying52 Try.info60 rfl (by omega) .i64 .i64 (by omega) (by omega) w
      have R0 := Row.zeros wr (m i * 5) (.int .u32 0) 60
      have O0 := Only.alloc [] wr (.cells (Array.replicate (m i * 5) (.int .u32 0)) 60)
      have HB : Hid (w.heap.size + 1 < wr.heap.size ∧ ∀ j, j < i → g j < wr.heap.size) := ⟨H.rc.lt, fun j hj => (H.rg j hj).lt⟩
      have rfi := Lr.rf i hlt
      clear hba rb
      go_wp2
      obtain ⟨wo, rfl⟩ : ∃ wo : World, wo = wr := ⟨_, rfl⟩
      go_loopw [11] (fun j' wj => ∃ (j : Nat) (gg : Nat → Value), j ≤ m i ∧ j' = .int .i64 j ∧ Row wj wo.heap.size 60 (m i * 5) gg ∧ Got x i gg j ∧ AtS k m cp x w wj i g ∧ Only [] wo wj) (fun j' _ => m i - (intOf j').toNat)
      case atStart => exact ⟨0, _, by omega, rfl, R0, fun q hq => by omega, H.keep O0, O0⟩
      case round =>
        clear R0 O0 mk3 H c0r d0 ix
        obtain ⟨wj, rfl⟩ : ∃ wj : World, wj = wr := ⟨_, rfl⟩
        obtain ⟨j, gg, hj, rfl, R, G, H, Oj⟩ := hrel
        by_cases hlt2 : j < m i
        · have cc : ∀ q, q < 5 → wj.cell? ⟨f i, j * 5 + q, none⟩ = some (.int .u32 (x i j q)) := fun q hq => by
            rw [(rfi.keep Oj (by simp)).cell (by omega)]
            unfold cells5
            rw [show (j * 5 + q) / 5 = j by omega, show (j * 5 + q) % 5 = q by omega]
          have c0 := cc 0 (by omega)
          have c1 := cc 1 (by omega)
          have c2 := cc 2 (by omega)
          have c3 := cc 3 (by omega)
          have c4 := cc 4 (by omega)
          simp only [Nat.add_zero] at c0
          have ix2 : ∀ w0 : World, (Instr.indexAt 80 (.slice (some ⟨f i, 0, none⟩) (m i) (cp i)) (.int .i64 (j : Int))).run Try.prog w0 = .ok (.pointer (some ⟨f i, j * 5, none⟩)) w0 := fun w0 => by
            have h := run_at (P := Try.prog) 80 84 (some ⟨f i, 0, none⟩) (m i) (cp i) (f i) 0 5 .i64 j Try.underlying80 Try.size84 rfl hlt2 w0
            rwa [Nat.zero_add] at h
          obtain ⟨wV, hwV, rv, O4, z4⟩ := newArr wj (x i j) 84
          have HV : Hid (wV = _) := hwV
          have Z4 : Hid (wV.heap.size = wj.heap.size + 1) := z4
          have n0 := rv.cell (i := 0) (by omega)
          have n1 := rv.cell (i := 1) (by omega)
          have n2 := rv.cell (i := 2) (by omega)
          have n3 := rv.cell (i := 3) (by omega)
          have n4 := rv.cell (i := 4) (by omega)
          have RV := R.keep O4 (by simp)
          have d0 := RV.cell (i := j * 5) (by omega)
          have d1 := RV.cell (i := j * 5 + 1) (by omega)
          have d2 := RV.cell (i := j * 5 + 2) (by omega)
          have d3 := RV.cell (i := j * 5 + 3) (by omega)
          have d4 := RV.cell (i := j * 5 + 4) (by omega)
          have fz := fun i => RV.frozen i
          have HF : Hid (∃ g', Row (setN wV wo.heap.size (j * 5) (fun r => .int .u32 (x i j r)) 5) wo.heap.size 60 (m i * 5) g' ∧ Got x i g' (j + 1) ∧ AtS k m cp x w (setN wV wo.heap.size (j * 5) (fun r => .int .u32 (x i j r)) 5) i g ∧ Only [] wo (setN wV wo.heap.size (j * 5) (fun r => .int .u32 (x i j r)) 5)) := by
            have O5 := Only.setN wV wo.heap.size (j * 5) (fun r => .int .u32 (x i j r)) 5
            exact ⟨_, RV.setN (j * 5) _ 5, G.next, (H.keep O4).keep1 O5 HB.out.1 HB.out.2, (Oj.trans O4).trans' O5 (fun i hi => by simp at hi; omega)⟩
          clear hwV z4 rv O4 RV R G H Oj cc L Lr rfi hm hc
          go_upto_region 12 with fail
          rw [← HV.out]
          clear c0 c1 c2 c3 c4
          go_wp2
          go_roundw
          case rel =>
            obtain ⟨g', h1, h2, h3, h4⟩ := HF.out
            exact ⟨j + 1, g', by omega, by go_num, h1, h2, h3, h4⟩
          case measure => simp [intOf]; omega
        · obtain rfl : j = m i := by omega
          obtain ⟨g', H'⟩ := H.next hlt (R.ext (fun q hq => G q hq))
          have c1 := H.rs.cell hlt
          have f1 := H.rs.frozen i
          have r2 := H.rc.other w.heap.size i (by omega) (.slice (some ⟨wo.heap.size, 0, none⟩) (m i) (m i))
          have c2 := r2.cell hlt
          have f2 := r2.frozen i
          have HF : Hid (AtS k m cp x w ((wj.setCell ⟨w.heap.size, i, none⟩ (.slice (some ⟨wo.heap.size, 0, none⟩) (m i) (m i))).setCell ⟨w.heap.size + 1, i, none⟩ (.int .i64 (cp i))) (i + 1) g') := H'
          clear H H' R G Oj L Lr rfi hm hc r2
          go_wp2
          go_roundw
          case rel => exact ⟨i + 1, g', by omega, by go_num, HF.out⟩
          case measure => simp [intOf]; omega
    · obtain rfl : i = k := by omega
      have c1 : wr.cell? ⟨lb, 1, none⟩ = some (.int .i64 h) := Lr.rh.cell (i := 1) (by omega)
      have c2 : wr.cell? ⟨lb, 2, none⟩ = some (.int .i64 n) := Lr.rh.cell (i := 2) (by omega)
      have FIN : Hid (StateP i m cp x h n w (.returned (.tuple #[.slice (some ⟨w.heap.size, 0, none⟩) i i, .slice (some ⟨w.heap.size + 1, 0, none⟩) i i, .int .i64 h, .int .i64 n])) wr) :=
        ⟨g, rfl, H.rs.ext (fun j hj => by rw [if_pos hj]), H.rc.ext (fun j hj => by rw [if_pos hj]; rfl), H.rg, H.ol⟩
      clear H L Lr hm hc
      go_wp2_with fail
      go_quiet (fail)
      go_wp2
      refine bodyPost_ret (results_tmp4 rfl _ _ _) rfl ?_
      obtain ⟨g, _, h1, h2, h3, h4⟩ := FIN.out
      exact ⟨g, rfl, h1.drewN _, h2.drewN _, fun j hj => (h3 j hj).drewN _, h4.trans (Only.drewN _ _ _)⟩
end Go.Proofs.Qxb6602566a
