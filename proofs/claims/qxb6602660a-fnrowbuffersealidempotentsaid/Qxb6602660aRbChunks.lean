/-
  COPIES OF CHUNKS, and of their sizes.
-/
import Derived.Test.Qxb6602660aRbCopy
import Derived.Deep.RegionHeld3
namespace Go.Proofs.Qxb6602660a
open Go.RowKit
set_option linter.unusedVariables false

theorem Elems.keep1 {w w' : World} {B B' c n s : Nat} {a : Option Addr} {f : Nat → Value} (h : Elems w B a n s f) (ho : Only [c] w w') (hc : ∀ b o, a = some ⟨b, o, none⟩ → b ≠ c) (hB : B ≤ B') : Elems w' B' a n s f := fun hn => by
  obtain ⟨b, off, e, hlt, hcell⟩ := h hn
  exact ⟨b, off, e, by omega, fun i hi => ho.cell (by simpa using hc b off e) (hcell i hi)⟩
theorem setCell_size (w : World) (a : Addr) (v : Value) : (w.setCell a v).heap.size = w.heap.size := by simp [World.setCell]
/-- The copies made so far. -/
structure AtZ (n : Nat) (sn : Nat → Nat) (s : Nat → Nat → Int) (Y : Nat) (wr : World) (k : Nat) (sa : Nat → Option Addr) (sc : Nat → Nat) : Prop where
  f : ∀ i, i < k → ∀ b o, sa i = some ⟨b, o, none⟩ → Y < b
  g : ∀ i, i < k → Elems wr wr.heap.size (sa i) (sn i) 1 (bytes (s i))
def updA {α : Type} (f : Nat → α) (k : Nat) (v : α) : Nat → α := fun i => if i = k then v else f i
theorem updA_at {α : Type} (f : Nat → α) (k : Nat) (v : α) : updA f k v k = v := by simp [updA]
theorem updA_ne {α : Type} (f : Nat → α) {k i : Nat} (v : α) (h : i ≠ k) : updA f k v i = f i := by simp [updA, h]
theorem AtZ.next {n : Nat} {sn : Nat → Nat} {s : Nat → Nat → Int} {Y : Nat} {wr w1 w2 : World} {k : Nat} {sa : Nat → Option Addr} {sc : Nat → Nat} (H : AtZ n sn s Y wr k sa sc) (O1 : Only [] wr w1) (O2 : Only [Y] w1 w2) (a : Option Addr) (c : Nat)
    (hf : ∀ b o, a = some ⟨b, o, none⟩ → wr.heap.size ≤ b) (hY : Y < wr.heap.size) (hE : Elems w1 w1.heap.size a (sn k) 1 (bytes (s k))) : AtZ n sn s Y w2 (k + 1) (updA sa k a) (updA sc k c) := by
  refine ⟨fun i hi b o e => ?_, fun i hi => ?_⟩
  · by_cases h : i = k
    · subst h; rw [updA_at] at e; have := hf b o e; omega
    · rw [updA_ne _ _ h] at e; exact H.f i (by omega) b o e
  · by_cases h : i = k
    · subst h; rw [updA_at]; exact hE.keep1 O2 (fun b o e => by have := hf b o e; omega) O2.size
    · rw [updA_ne _ _ h]; exact ((H.g i (by omega)).up O1 O1.size).keep1 O2 (fun b o e => by have := H.f i (by omega) b o e; omega) O2.size
def SizesP (n : Nat) (sn : Nat → Nat) (s : Nat → Nat → Int) (w : World) (e : Ending) (w' : World) : Prop :=
  ∃ (sa : Nat → Option Addr) (sc : Nat → Nat), e = .returned (.slice (some ⟨w.heap.size, 0, none⟩) n n) ∧ Row w' w.heap.size 26 n (fun i => .slice (sa i) (sn i) (sc i)) ∧ AtZ n sn s w.heap.size w' n sa sc ∧ Only [] w w'
set_option maxRecDepth 100000 in
set_option maxHeartbeats 4000000 in
theorem sizes17 (p : Ch) (B : Nat) (w : World) (hL : LaidC w B p) (hn : p.n ≤ 65536) (hx : ∀ i, i < p.n → p.sn i ≤ 1048576) :
    Calls Try.prog 17 #[.slice p.a p.n p.c] w fun e w' => SizesP p.n p.sn p.s w e w' := by
  have hmk : ∀ w : World, (Instr.makeSlice 35 (.int .i64 (p.n : Int)) (.int .i64 (p.n : Int))).run Try.prog w = .ok (.slice (some ⟨w.heap.size, 0, none⟩) p.n p.n) (w.alloc (.cells (Array.replicate p.n (.slice none 0 0)) 26)) := fun w => by
    have h := run_make_list (P := Try.prog) 35 26 (.slice none 0 0) (.slice none 0 0) 1 24 p.n Try.underlying35 Try.info26 rfl (by omega) .i64 .i64 (by omega) (by omega) w
    simpa using h
  have R0 := Row.zeros w p.n (.slice none 0 0) 26
  have O0 := Only.alloc [] w (.cells (Array.replicate p.n (.slice none 0 0)) 26)
  go_enter Try.func17, Try.ntmps17
  go_wp2
  go_loopw [4] (fun i wr => ∃ (k : Nat) (sa : Nat → Option Addr) (sc : Nat → Nat), k ≤ p.n ∧ i = .int .i64 k ∧ Row wr w.heap.size 26 p.n (fun j => if j < k then .slice (sa j) (p.sn j) (sc j) else .slice none 0 0) ∧ AtZ p.n p.sn p.s w.heap.size wr k sa sc ∧ Only [] w wr) (fun i _ => p.n - (intOf i).toNat)
  case atStart => exact ⟨0, fun _ => none, fun _ => 0, by omega, rfl, R0.ext (fun j _ => by simp), ⟨fun i hi => by omega, fun i hi => by omega⟩, O0⟩
  case round =>
    clear R0 O0 hmk
    obtain ⟨k, sa, sc, hk, rfl, R, Z, O⟩ := hrel
    by_cases hlt : k < p.n
    · have Lr := hL.up O (Nat.le_refl B)
      obtain ⟨b, o, e, c0, c1⟩ := Lr.at hlt
      have hix := run_at (P := Try.prog) 25 43 p.a p.n p.c b o 2 .i64 k Try.underlying25 Try.size43 e hlt
      have gk := Lr.g k hlt
      have xk := hx k hlt
      clear hL Lr e
      go_wp2_with fail
      refine (copyBytes14 _ _ _ _ B wr gk xk).mono ?_
      rintro e w1 ⟨a', c', rfl, hE, hf, O1⟩
      have R1 := R.keep O1 (by simp)
      have cw := R1.cell hlt
      have fw := R1.frozen k
      have HF : Hid (Row (w1.setCell ⟨w.heap.size, k, none⟩ (.slice a' (p.sn k) c')) w.heap.size 26 p.n (fun j => if j < k + 1 then .slice (updA sa k a' j) (p.sn j) (updA sc k c' j) else .slice none 0 0) ∧ AtZ p.n p.sn p.s w.heap.size (w1.setCell ⟨w.heap.size, k, none⟩ (.slice a' (p.sn k) c')) (k + 1) (updA sa k a') (updA sc k c') ∧ Only [] w (w1.setCell ⟨w.heap.size, k, none⟩ (.slice a' (p.sn k) c'))) := by
        refine ⟨(R1.set k _).ext (fun j hj => ?_), Z.next O1 ((Only.refl _ _).set _ _ _ (.inl (by simp))) a' c' hf R.lt hE, (O.trans O1).set _ _ _ (.inr (Nat.le_refl _))⟩
        by_cases e : j = k
        · subst e; rw [upd_at, if_pos (by omega), updA_at, updA_at]
        · rw [upd_ne _ _ e]
          by_cases h1 : j < k
          · rw [if_pos h1, if_pos (by omega), updA_ne _ _ e, updA_ne _ _ e]
          · rw [if_neg h1, if_neg (by omega)]
      clear R R1 Z O O1 hE hf gk
      go_wp2
      go_roundw
      case rel => exact ⟨k + 1, _, _, by omega, by go_num, HF.out⟩
      case measure => simp [intOf]; omega
    · obtain rfl : k = p.n := by omega
      have FIN : Hid (SizesP p.n p.sn p.s w (.returned (.slice (some ⟨w.heap.size, 0, none⟩) p.n p.n)) wr) := ⟨sa, sc, rfl, R.ext (fun j hj => by rw [if_pos (by omega)]), Z, O⟩
      clear hL R Z O hx
      go_wp2
      go_ret
      exact FIN.out
theorem Only.set2 {S : List Nat} {w0 w : World} (h : Only S w0 w) (b i j : Nat) (u v : Value) (hb : b ∈ S) : Only S w0 ((w.setCell ⟨b, i, none⟩ u).setCell ⟨b, j, none⟩ v) := (h.set b i u (.inl hb)).set b j v (.inl hb)
/-- The first k chunks of the copy. -/
def ChTo (p : Ch) (sa : Nat → Option Addr) (sc : Nat → Nat) (g : Nat → Value) (k : Nat) : Prop := ∀ q, q < k * 2 → g q = chCell { p with sa := sa, sc := sc } q
theorem ChTo.next {p : Ch} {sa : Nat → Option Addr} {sc : Nat → Nat} {g : Nat → Value} {k : Nat} (h : ChTo p sa sc g k) (a : Option Addr) (c : Nat) : ChTo p (updA sa k a) (updA sc k c) (upd (upd g (k * 2) (.string (p.T k))) (k * 2 + 1) (.slice a (p.sn k) c)) (k + 1) := by
  intro q hq
  by_cases e1 : q = k * 2 + 1
  · subst e1; rw [upd_at, chCell1]; simp [updA]
  · rw [upd_ne _ _ e1]
    by_cases e0 : q = k * 2
    · subst e0; rw [upd_at, chCell0]
    · rw [upd_ne _ _ e0, h q (by omega)]
      unfold chCell
      have hne : q / 2 ≠ k := by omega
      simp [updA, hne]
theorem LaidC.at' {w : World} {B : Nat} {p : Ch} (L : LaidC w B p) {i : Nat} (hi : i < p.n) : ∃ b o, p.a = some ⟨b, o, none⟩ ∧ b < B ∧ w.cell? ⟨b, o + i * 2, none⟩ = some (.string (p.T i)) ∧ w.cell? ⟨b, o + i * 2 + 1, none⟩ = some (.slice (p.sa i) (p.sn i) (p.sc i)) := by
  obtain ⟨b, o, e, c0, c1⟩ := L.at hi
  obtain ⟨b', o', e', hb, _⟩ := L.h (by omega)
  rw [e] at e'
  cases e'
  exact ⟨b, o, e, hb, c0, c1⟩
def ChunksP (p : Ch) (w : World) (e : Ending) (w' : World) : Prop :=
  ∃ a' c' sa sc, e = .returned (.slice a' p.n c') ∧ LaidC w' w'.heap.size ⟨a', p.n, c', p.T, sa, p.sn, sc, p.s⟩ ∧ Only [] w w'
set_option maxRecDepth 100000 in
set_option maxHeartbeats 4000000 in
theorem copyChunks13 (p : Ch) (B : Nat) (w : World) (hL : LaidC w B p) (hB : B ≤ w.heap.size) (hn : p.n ≤ 65536) (hx : ∀ i, i < p.n → p.sn i ≤ 1048576) :
    Calls Try.prog 13 #[.slice p.a p.n p.c] w fun e w' => ChunksP p w e w' := by
  have hnn := nil_eq 25 43 p.a p.n p.c Try.underlying25
  cases hs : p.a with
  | none =>
    have h0 : p.n = 0 := by
      by_cases h : 0 < p.n
      · obtain ⟨_, _, e, _⟩ := hL.h h; rw [hs] at e; cases e
      · omega
    have FIN : Hid (ChunksP p w (.returned (.slice none 0 0)) w) := by
      refine ⟨none, 0, p.sa, p.sc, by rw [h0], ⟨fun h => ?_, fun i hi => ?_, hL.z, hL.y, hL.x⟩, Only.refl _ _⟩
      · have h : 0 < p.n := h; omega
      · have hi : i < p.n := hi; omega
    have HH : Hid (p.n = 0) := h0
    rw [hs] at hnn
    clear hs hL h0 hx
    go_enter Try.func13, Try.ntmps13
    go_wp2
    go_ret
    exact FIN.out
  | some x =>
    rw [hs] at hnn
    have HX : Hid (p.a = some x) := hs
    clear hs
    have hmk : ∀ w : World, (Instr.makeSlice 25 (.int .i64 (p.n : Int)) (.int .i64 (p.n : Int))).run Try.prog w = .ok (.slice (some ⟨w.heap.size, 0, none⟩) p.n p.n) (w.alloc (.cells (madeCells z2.cells (p.n * 2)) 43)) := fun w =>
      run_make_any (P := Try.prog) 25 43 z2 2 40 p.n Try.underlying25 Try.info43 .i64 .i64 (by omega) (by omega) w
    have hmk1 := hmk w
    obtain ⟨wA, hwA⟩ : ∃ wA, wA = w.alloc (.cells (madeCells z2.cells (p.n * 2)) 43) := ⟨_, rfl⟩
    rw [← hwA] at hmk1
    have R0 : ∃ g, Row wA w.heap.size 43 (p.n * 2) g := by
      have h := Row.made w (madeCells z2.cells (p.n * 2)) 43
      rw [← hwA, show (madeCells z2.cells (p.n * 2)).size = p.n * 2 by simp [madeCells]] at h
      exact ⟨_, h⟩
    have O0 : Only [] w wA := by rw [hwA]; exact Only.alloc [] w _
    obtain ⟨g0, R0⟩ := R0
    clear hmk hwA
    go_enter Try.func13, Try.ntmps13
    go_wp2
    go_loopw [4] (fun i wr => ∃ (k : Nat) (sa : Nat → Option Addr) (sc : Nat → Nat) (g : Nat → Value), k ≤ p.n ∧ i = .int .i64 k ∧ Row wr w.heap.size 43 (p.n * 2) g ∧ ChTo p sa sc g k ∧ AtZ p.n p.sn p.s w.heap.size wr k sa sc ∧ Only [] w wr) (fun i _ => p.n - (intOf i).toNat)
    case atStart => exact ⟨0, fun _ => none, fun _ => 0, g0, by omega, rfl, R0, fun q hq => by omega, ⟨fun i hi => by omega, fun i hi => by omega⟩, O0⟩
    case round =>
      clear R0 O0 hmk1 hnn
      obtain ⟨k, sa, sc, g, hk, rfl, R, G, Z, O⟩ := hrel
      by_cases hlt : k < p.n
      · have Lr := hL.up O (Nat.le_refl B)
        obtain ⟨b, o, e, hbB, c0, c1⟩ := Lr.at' hlt
        have hix := run_at (P := Try.prog) 25 43 (some x) p.n p.c b o 2 .i64 k Try.underlying25 Try.size43 (HX.out ▸ e) hlt
        have gk := Lr.g k hlt
        have xk := hx k hlt
        have hY := R.lt
        have hiy : ∀ w0 : World, (Instr.indexAt 25 (.slice (some ⟨w.heap.size, 0, none⟩) p.n p.n) (.int .i64 (k : Int))).run Try.prog w0 = .ok (.pointer (some ⟨w.heap.size, k * 2, none⟩)) w0 := fun w0 => by
          have h := run_at (P := Try.prog) 25 43 (some ⟨w.heap.size, 0, none⟩) p.n p.n w.heap.size 0 2 .i64 k Try.underlying25 Try.size43 rfl hlt w0
          rwa [Nat.zero_add] at h
        have h0 : ∀ w', Only [w.heap.size] wr w' → w'.cell? ⟨b, o + k * 2, none⟩ = some (.string (p.T k)) := fun w' h => h.cell (by simp; omega) c0
        have h1 : ∀ w', Only [w.heap.size] wr w' → w'.cell? ⟨b, o + k * 2 + 1, none⟩ = some (.slice (p.sa k) (p.sn k) (p.sc k)) := fun w' h => h.cell (by simp; omega) c1
        have hE0 : ∀ w', Only [w.heap.size] wr w' → Elems w' w'.heap.size (p.sa k) (p.sn k) 1 (bytes (p.s k)) := fun w' h hn => by
          obtain ⟨b2, o2, e2, hb2, hc2⟩ := gk hn
          exact ⟨b2, o2, e2, by have := h.size; omega, fun i hi => h.cell (by simp; omega) (hc2 i hi)⟩
        have HZ : Hid (AtZ p.n p.sn p.s w.heap.size wr k sa sc ∧ ChTo p sa sc g k ∧ Only [] w wr) := ⟨Z, G, O⟩
        clear hL Lr e c0 c1 Z G O gk hx
        go_wp2_with fail
        go_region_held3 (fun w' => Only [w.heap.size] wr w') (first | exact Only.drew _ _ | assumption | exact Only.set2 (by assumption) _ _ _ _ _ (by simp))
          (first | (go_at_call 14; refine (copyBytes14 _ _ _ _ _ _ (hE0 _ ?_) xk).mono ?_; assumption; rintro e w1 ⟨a', c', rfl, hE, hf, O1⟩; have R1 : Row w1 w.heap.size 43 (p.n * 2) g := Row.keep (w := wr.drew) R O1 (by simp); have cw0 := R1.cell (i := k * 2) (by omega); have cw1 := R1.cell (i := k * 2 + 1) (by omega); have fw := fun i => R1.frozen i; have hS1 : Only [w.heap.size] wr w1 := (Only.drew _ _).trans (Only.mono O1 (by simp))))
        have HF : Hid (∃ sa' sc' g', Row ((w1.setCell ⟨w.heap.size, k * 2, none⟩ (.string (p.T k))).setCell ⟨w.heap.size, k * 2 + 1, none⟩ (.slice a' (p.sn k) c')) w.heap.size 43 (p.n * 2) g' ∧ ChTo p sa' sc' g' (k + 1) ∧ AtZ p.n p.sn p.s w.heap.size ((w1.setCell ⟨w.heap.size, k * 2, none⟩ (.string (p.T k))).setCell ⟨w.heap.size, k * 2 + 1, none⟩ (.slice a' (p.sn k) c')) (k + 1) sa' sc' ∧ Only [] w ((w1.setCell ⟨w.heap.size, k * 2, none⟩ (.string (p.T k))).setCell ⟨w.heap.size, k * 2 + 1, none⟩ (.slice a' (p.sn k) c'))) := by
          obtain ⟨Z, G, O⟩ := HZ.out
          have O1' : Only [] wr w1 := (Only.drew _ _).trans O1
          exact ⟨_, _, _, (R1.set _ _).set _ _, G.next a' c', Z.next O1' (Only.set2 (Only.refl _ _) _ _ _ _ _ (by simp)) a' c' (fun b o e => hf b o e) hY hE, ((O.trans O1').set _ _ _ (.inr (Nat.le_refl _))).set _ _ _ (.inr (Nat.le_refl _))⟩
        clear R R1 hE hf O1 hS1 cw0 cw1 fw HZ
        go_wp2
        go_roundw
        case rel =>
          obtain ⟨sa', sc', g', h1, h2, h3, h4⟩ := HF.out
          exact ⟨k + 1, sa', sc', g', by omega, by go_num, h1, h2, h3, h4⟩
        case measure => simp [intOf]; omega
      · obtain rfl : k = p.n := by omega
        have FIN : Hid (ChunksP p w (.returned (.slice (some ⟨w.heap.size, 0, none⟩) p.n p.n)) wr) :=
          ⟨_, _, sa, sc, rfl, ⟨fun _ => ⟨w.heap.size, 0, rfl, R.lt, fun i hi => by rw [Nat.zero_add, R.cell hi]; exact congrArg some (G i hi)⟩, Z.g, hL.z, hL.y, hL.x⟩, O⟩
        clear hL R Z O hx G
        go_wp2
        go_ret
        exact FIN.out
end Go.Proofs.Qxb6602660a
