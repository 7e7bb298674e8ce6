/-
  THE rowBuffer: made, and its fields read out.
-/
import Derived.Test.Qxb6602660aRbChunks
namespace Go.Proofs.Qxb6602660a
open Go.RowKit
set_option linter.unusedVariables false

/-- A rowBuffer as plain data. -/
structure Bf where
  (wd rows ll : Int)
  ch : Ch
  (ta za : Option Addr)
  (tn tc zn zc : Nat)
  (tb zb : Nat → Int)
def bcell (F : Bf) : Nat → Value
  | 0 => .int .i64 F.wd
  | 1 => .slice F.ch.a F.ch.n F.ch.c
  | 2 => .slice F.ta F.tn F.tc
  | 3 => .slice F.za F.zn F.zc
  | 4 => .int .i64 F.rows
  | _ => .int .i64 F.ll
/-- It lies at block rb; what it leads to lies below B. -/
structure BufAt (w : World) (rb B : Nat) (F : Bf) : Prop where
  rh : Row w rb 48 6 (bcell F)
  lc : LaidC w B F.ch
  tx : Elems w B F.ta F.tn 1 (bytes F.tb)
  sz : Elems w B F.za F.zn 1 (bytes F.zb)
theorem BufAt.up {w w' : World} {rb B B' : Nat} {F : Bf} (h : BufAt w rb B F) (O : Only [] w w') (hB : B ≤ B') : BufAt w' rb B' F := ⟨h.rh.keep O (by simp), h.lc.up O hB, h.tx.up O hB, h.sz.up O hB⟩
def MadeP (F : Bf) (n : Nat) (w : World) (e : Ending) (w' : World) : Prop :=
  ∃ rb, e = .returned (.pointer (some ⟨rb, 0, none⟩)) ∧ w.heap.size ≤ rb ∧ BufAt w' rb rb { F with ch := ⟨some ⟨w.heap.size, 0, none⟩, n, n, F.ch.T, F.ch.sa, F.ch.sn, F.ch.sc, F.ch.s⟩ } ∧ Only [] w w'
set_option maxRecDepth 100000 in
set_option maxHeartbeats 4000000 in
/-- The chunks' texts and sizes come in two rows (blocks tb, zb). -/
theorem make15 (F : Bf) (n tb zb : Nat) (w : World) (hn : n ≤ 65536) (RT : Row w tb 9 n (fun i => .string (F.ch.T i))) (RZ : Row w zb 26 n (fun i => .slice (F.ch.sa i) (F.ch.sn i) (F.ch.sc i)))
    (hg : ∀ i, i < n → Elems w w.heap.size (F.ch.sa i) (F.ch.sn i) 1 (bytes (F.ch.s i))) (hy : ∀ i, i < n → ((F.ch.T i).size : Int) ≤ 9223372036854775807) (hx : ∀ i, i < n → (F.ch.sn i : Int) ≤ 9223372036854775807)
    (ht : Elems w w.heap.size F.ta F.tn 1 (bytes F.tb)) (hz : Elems w w.heap.size F.za F.zn 1 (bytes F.zb)) :
    Calls Try.prog 15 #[.int .i64 F.wd, .slice (some ⟨tb, 0, none⟩) n n, .slice (some ⟨zb, 0, none⟩) n n, .slice F.ta F.tn F.tc, .slice F.za F.zn F.zc, .int .i64 F.rows, .int .i64 F.ll] w fun e w' => MadeP F n w e w' := by
  have hmk : ∀ w : World, (Instr.makeSlice 44 (.int .i64 (n : Int)) (.int .i64 (n : Int))).run Try.prog w = .ok (.slice (some ⟨w.heap.size, 0, none⟩) n n) (w.alloc (.cells (madeCells z2.cells (n * 2)) 46)) := fun w =>
    run_make_any (P := Try.prog) 44 46 z2 2 40 n Try.underlying44 Try.info46 .i64 .i64 (by omega) (by omega) w
  have hmk1 := hmk w
  obtain ⟨wA, hwA⟩ : ∃ wA, wA = w.alloc (.cells (madeCells z2.cells (n * 2)) 46) := ⟨_, rfl⟩
  rw [← hwA] at hmk1
  have R0 : ∃ g, Row wA w.heap.size 46 (n * 2) g := by
    have h := Row.made w (madeCells z2.cells (n * 2)) 46
    rw [← hwA, show (madeCells z2.cells (n * 2)).size = n * 2 by simp [madeCells]] at h
    exact ⟨_, h⟩
  have O0 : Only [] w wA := by rw [hwA]; exact Only.alloc [] w _
  obtain ⟨g0, R0⟩ := R0
  have hl : ¬ (n : Int) < (n : Int) := by omega
  clear hmk hwA
  go_enter Try.func15, Try.ntmps15
  go_wp2
  go_loopw [17] (fun i wr => ∃ (k : Nat) (g : Nat → Value), k ≤ n ∧ i = .int .i64 k ∧ Row wr w.heap.size 46 (n * 2) g ∧ ChTo F.ch F.ch.sa F.ch.sc g k ∧ Only [] w wr) (fun i _ => n - (intOf i).toNat)
  case atStart => exact ⟨0, g0, by omega, rfl, R0, fun q hq => by omega, O0⟩
  case round =>
    clear R0 O0 hmk1 hl
    obtain ⟨k, g, hk, rfl, R, G, O⟩ := hrel
    have hY := R.lt
    by_cases hlt : k < n
    · have c0 := (RT.keep O (by simp)).cell hlt
      have c1 := (RZ.keep O (by simp)).cell hlt
      have tlt := RT.lt
      have zlt := RZ.lt
      have h0 : ∀ w', Only [w.heap.size] wr w' → w'.cell? ⟨tb, k, none⟩ = some (.string (F.ch.T k)) := fun w' h => h.cell (by simp; omega) c0
      have h1 : ∀ w', Only [w.heap.size] wr w' → w'.cell? ⟨zb, k, none⟩ = some (.slice (F.ch.sa k) (F.ch.sn k) (F.ch.sc k)) := fun w' h => h.cell (by simp; omega) c1
      have hiy : ∀ w0 : World, (Instr.indexAt 44 (.slice (some ⟨w.heap.size, 0, none⟩) n n) (.int .i64 (k : Int))).run Try.prog w0 = .ok (.pointer (some ⟨w.heap.size, k * 2, none⟩)) w0 := fun w0 => by
        have h := run_at (P := Try.prog) 44 46 (some ⟨w.heap.size, 0, none⟩) n n w.heap.size 0 2 .i64 k Try.underlying44 Try.size46 rfl hlt w0
        rwa [Nat.zero_add] at h
      have cw0 := R.cell (i := k * 2) (by omega)
      have cw1 := R.cell (i := k * 2 + 1) (by omega)
      have fw := fun i => R.frozen i
      have hki : (k : Int) < (n : Int) := by omega
      have HF : Hid (∃ g', Row ((wr.setCell ⟨w.heap.size, k * 2, none⟩ (.string (F.ch.T k))).setCell ⟨w.heap.size, k * 2 + 1, none⟩ (.slice (F.ch.sa k) (F.ch.sn k) (F.ch.sc k))) w.heap.size 46 (n * 2) g' ∧ ChTo F.ch F.ch.sa F.ch.sc g' (k + 1) ∧ Only [] w ((wr.setCell ⟨w.heap.size, k * 2, none⟩ (.string (F.ch.T k))).setCell ⟨w.heap.size, k * 2 + 1, none⟩ (.slice (F.ch.sa k) (F.ch.sn k) (F.ch.sc k)))) := by
        refine ⟨_, (R.set _ _).set _ _, ?_, (O.set _ _ _ (.inr (Nat.le_refl _))).set _ _ _ (.inr (Nat.le_refl _))⟩
        have h := G.next (F.ch.sa k) (F.ch.sc k)
        have e1 : updA F.ch.sa k (F.ch.sa k) = F.ch.sa := by funext i; unfold updA; split <;> simp_all
        have e2 : updA F.ch.sc k (F.ch.sc k) = F.ch.sc := by funext i; unfold updA; split <;> simp_all
        rw [e1, e2] at h
        exact h
      clear RT RZ hg hy hx ht hz G O R c0 c1
      go_wp2_with fail
      go_region_held3 (fun w' => Only [w.heap.size] wr w') (first | exact Only.drew _ _ | assumption | exact Only.trans (Only.set2 (Only.refl [w.heap.size] wr) w.heap.size _ _ _ _ (by simp)) (Only.drew _ _)) (fail)
      clear cw0 cw1 fw h0 h1 hiy
      go_wp2
      go_roundw
      case rel =>
        obtain ⟨g', h1, h2, h3⟩ := HF.out
        exact ⟨k + 1, g', by omega, by go_num, h1.drew, h2, h3.trans (Only.drew _ _)⟩
      case measure => simp [intOf]; omega
    · obtain rfl : k = n := by omega
      have HF : Hid (∀ w', Only [] wr w' → Row w' wr.heap.size 48 6 (bcell { F with ch := ⟨some ⟨w.heap.size, 0, none⟩, k, k, F.ch.T, F.ch.sa, F.ch.sn, F.ch.sc, F.ch.s⟩ }) → MadeP F k w (.returned (.pointer (some ⟨wr.heap.size, 0, none⟩))) w') := fun w' O' hr =>
        ⟨wr.heap.size, rfl, O.size, ⟨hr, ⟨fun _ => ⟨w.heap.size, 0, rfl, hY, fun i hi => by rw [Nat.zero_add, O'.cell (by simp) (R.cell hi)]; exact congrArg some (G i hi)⟩, fun i hi => (hg i hi).up (O.trans O') O.size, by show (k : Int) ≤ _; omega, hy, hx⟩, ht.up (O.trans O') O.size, hz.up (O.trans O') O.size⟩, O.trans O'⟩
      have RB := Row.made wr #[.int .i64 F.wd, .slice (some ⟨w.heap.size, 0, none⟩) k k, .slice F.ta F.tn F.tc, .slice F.za F.zn F.zc, .int .i64 F.rows, .int .i64 F.ll] 48
      have RB' := RB.ext (g := bcell { F with ch := ⟨some ⟨w.heap.size, 0, none⟩, k, k, F.ch.T, F.ch.sa, F.ch.sn, F.ch.sc, F.ch.s⟩ }) (fun i hi => by
        have hi : i < 6 := hi
        obtain rfl | rfl | rfl | rfl | rfl | rfl : i = 0 ∨ i = 1 ∨ i = 2 ∨ i = 3 ∨ i = 4 ∨ i = 5 := by omega
        all_goals rfl)
      have FIN : Hid (_) := HF.out _ (Only.alloc [] wr _) RB'
      clear RT RZ hg hy hx ht hz G O R HF RB RB'
      go_wp2
      go_ret
      exact FIN.out
end Go.Proofs.Qxb6602660a
