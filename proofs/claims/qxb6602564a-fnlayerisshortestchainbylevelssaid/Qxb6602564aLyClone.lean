/-
  THE CLONES OF THE LAYER LAWS: cloneInts, cloneInt32s, cloneInt32Lists.
-/
import Derived.Test.Qxb6602564aMs
namespace Go.Proofs.Qxb6602564a
open Go.RowKit
set_option linter.unusedVariables false

theorem Has.up {w w' : World} {B B' n : Nat} {k : IntKind} {a : Option Addr} {f : Nat → Int} (h : Has w B k a n f) (O : Only [] w w') (hB : B ≤ B') : Has w' B' k a n f := fun hn => by
  obtain ⟨b, off, e, hlt, hc⟩ := h hn
  exact ⟨b, off, e, by omega, fun i hi => O.cell (by simp) (hc i hi)⟩
theorem Has.up1 {w w' : World} {B B' n c : Nat} {k : IntKind} {a : Option Addr} {f : Nat → Int} (h : Has w B k a n f) (O : Only [c] w w') (hc : ∀ b o, a = some ⟨b, o, none⟩ → b ≠ c) (hB : B ≤ B') : Has w' B' k a n f := fun hn => by
  obtain ⟨b, off, e, hlt, hcell⟩ := h hn
  exact ⟨b, off, e, by omega, fun i hi => O.cell (by simpa using hc b off e) (hcell i hi)⟩
theorem nil_eq (t e : TypeId) (a : Option Addr) (n c : Nat) (h : Try.prog.underlying t = some (.slice e)) : ∀ w, (binOp .eql t (.slice a n c) (.slice none 0 0)).run Try.prog w = .ok (.bool a.isNone) w := fun w => by
  simp only [binOp]
  simp [Op.equal, Op.maxDepth, Lib.run_equalIn_slice_nil w 9999 t e a n c 0 0 h]
def CloneP (k : IntKind) (n : Nat) (f : Nat → Int) (w : World) (e : Ending) (w' : World) : Prop :=
  ∃ a' c', e = .returned (.slice a' n c') ∧ Has w' w'.heap.size k a' n f ∧ ((∀ b o, a' = some ⟨b, o, none⟩ → w.heap.size ≤ b) ∧ n ≤ c') ∧ Only [] w w'
theorem Try.inf21 : (Try.prog.info? 21).map (fun i => (i.zero, i.size, i.bytes)) = some (some (.int .i32 0), 1, 4) := by kernel_rfl
theorem Try.inf3 : (Try.prog.info? 3).map (fun i => (i.zero, i.size, i.bytes)) = some (some (.int .i64 0), 1, 8) := by kernel_rfl
theorem Try.inf34 : (Try.prog.info? 34).map (fun i => (i.zero, i.size, i.bytes)) = some (some (.slice none 0 0), 1, 24) := by kernel_rfl
set_option maxRecDepth 100000 in
set_option maxHeartbeats 4000000 in
theorem cloneI23 (a : Option Addr) (n c : Nat) (s : Nat → Int) (B : Nat) (w : World) (hE : Has w B .i64 a n s) (hn : n ≤ 262144) :
    Calls Try.prog 23 #[.slice a n c] w fun e w' => CloneP .i64 n s w e w' := by
  have hnn := nil_eq 26 3 a n c Try.underlying26
  cases hs : a with
  | none =>
    have h0 : n = 0 := by
      by_cases h : 0 < n
      · obtain ⟨_, _, e, _⟩ := hE h; rw [hs] at e; cases e
      · omega
    subst h0
    rw [hs] at hnn
    have FIN : Hid (CloneP .i64 0 s w (.returned (.slice none 0 0)) w) := ⟨none, 0, rfl, fun h => by omega, ⟨(fun _ _ h => by cases h), Nat.le_refl _⟩, Only.refl _ _⟩
    clear hE hs
    go_enter Try.func23, Try.ntmps23
    go_wp2
    go_ret
    exact FIN.out
  | some x =>
    rw [hs] at hnn hE
    clear hs
    have hmk : ∀ w : World, (Instr.makeSlice 26 (.int .i64 (n : Int)) (.int .i64 (n : Int))).run Try.prog w = .ok (.slice (some ⟨w.heap.size, 0, none⟩) n n) (w.alloc (.cells (Array.replicate n (.int .i64 0)) 3)) := fun w => by
      have h := run_make_list (P := Try.prog) 26 3 (.int .i64 0) (.int .i64 0) 1 8 n Try.underlying26 Try.inf3 rfl (by omega) .i64 .i64 (by omega) (by omega) w
      simpa using h
    have R0 := Row.zeros w n (.int .i64 0) 3
    have O0 := Only.alloc [] w (.cells (Array.replicate n (.int .i64 0)) 3)
    go_enter Try.func23, Try.ntmps23
    go_wp2
    go_loopw [4] (fun i wr => ∃ k : Nat, k ≤ n ∧ i = .int .i64 k ∧ Row wr w.heap.size 3 n (fun j => if j < k then .int .i64 (s j) else .int .i64 0) ∧ Only [] w wr) (fun i _ => n - (intOf i).toNat)
    case atStart => exact ⟨0, by omega, rfl, R0.ext (fun j _ => by simp), O0⟩
    case round =>
      clear R0 O0 hmk hnn
      obtain ⟨k, hk, rfl, R, O⟩ := hrel
      by_cases hlt : k < n
      · obtain ⟨b, off, e, _, hc⟩ := hE (by omega)
        have hix := run_atN (P := Try.prog) 26 3 (some x) n c b off .i64 k Try.underlying26 Try.size3 e hlt
        have ck : wr.cell? ⟨b, off + k, none⟩ = some (.int .i64 (s k)) := O.cell (by simp) (hc k (by omega))
        have cw : wr.cell? ⟨w.heap.size, k, none⟩ = some (.int .i64 0) := (R.cell hlt).trans (by simp)
        have fw := R.frozen k
        have FIN : Hid (Row (wr.setCell ⟨w.heap.size, k, none⟩ (.int .i64 (s k))) w.heap.size 3 n (fun j => if j < k + 1 then .int .i64 (s j) else .int .i64 0) ∧ Only [] w (wr.setCell ⟨w.heap.size, k, none⟩ (.int .i64 (s k)))) := by
          refine ⟨(R.set k _).ext (fun j hj => ?_), O.set _ _ _ (.inr (Nat.le_refl _))⟩
          by_cases e : j = k
          · subst e; rw [upd_at, if_pos (by omega)]
          · rw [upd_ne _ _ e]
            by_cases h1 : j < k
            · rw [if_pos h1, if_pos (by omega)]
            · rw [if_neg h1, if_neg (by omega)]
        clear hc e hE R O
        go_wp2
        go_roundw
        case rel => exact ⟨k + 1, by omega, by go_num, FIN.out⟩
        case measure => simp [intOf]; omega
      · have FIN : Hid (CloneP .i64 n s w (.returned (.slice (some ⟨w.heap.size, 0, none⟩) n n)) wr) :=
          ⟨_, _, rfl, fun _ => ⟨w.heap.size, 0, rfl, R.lt, fun i hi => by rw [Nat.zero_add, R.cell hi, if_pos (by omega)]⟩, ⟨(fun _ _ h => by cases h; exact Nat.le_refl _), Nat.le_refl _⟩, O⟩
        clear hE R O
        go_wp2
        go_ret
        exact FIN.out
set_option maxRecDepth 100000 in
set_option maxHeartbeats 4000000 in
theorem clone49 (a : Option Addr) (n c : Nat) (s : Nat → Int) (B : Nat) (w : World) (hE : Has w B .i32 a n s) (hn : n ≤ 262144) :
    Calls Try.prog 49 #[.slice a n c] w fun e w' => CloneP .i32 n s w e w' := by
  have hnn := nil_eq 34 21 a n c Try.underlying34
  cases hs : a with
  | none =>
    have h0 : n = 0 := by
      by_cases h : 0 < n
      · obtain ⟨_, _, e, _⟩ := hE h; rw [hs] at e; cases e
      · omega
    subst h0
    rw [hs] at hnn
    have FIN : Hid (CloneP .i32 0 s w (.returned (.slice none 0 0)) w) := ⟨none, 0, rfl, fun h => by omega, ⟨(fun _ _ h => by cases h), Nat.le_refl _⟩, Only.refl _ _⟩
    clear hE hs
    go_enter Try.func49, Try.ntmps49
    go_wp2
    go_ret
    exact FIN.out
  | some x =>
    rw [hs] at hnn hE
    clear hs
    have hmk : ∀ w : World, (Instr.makeSlice 34 (.int .i64 (n : Int)) (.int .i64 (n : Int))).run Try.prog w = .ok (.slice (some ⟨w.heap.size, 0, none⟩) n n) (w.alloc (.cells (Array.replicate n (.int .i32 0)) 21)) := fun w => by
      have h := run_make_list (P := Try.prog) 34 21 (.int .i32 0) (.int .i32 0) 1 4 n Try.underlying34 Try.inf21 rfl (by omega) .i64 .i64 (by omega) (by omega) w
      simpa using h
    have R0 := Row.zeros w n (.int .i32 0) 21
    have O0 := Only.alloc [] w (.cells (Array.replicate n (.int .i32 0)) 21)
    go_enter Try.func49, Try.ntmps49
    go_wp2
    go_loopw [4] (fun i wr => ∃ k : Nat, k ≤ n ∧ i = .int .i64 k ∧ Row wr w.heap.size 21 n (fun j => if j < k then .int .i32 (s j) else .int .i32 0) ∧ Only [] w wr) (fun i _ => n - (intOf i).toNat)
    case atStart => exact ⟨0, by omega, rfl, R0.ext (fun j _ => by simp), O0⟩
    case round =>
      clear R0 O0 hmk hnn
      obtain ⟨k, hk, rfl, R, O⟩ := hrel
      by_cases hlt : k < n
      · obtain ⟨b, off, e, _, hc⟩ := hE (by omega)
        have hix := run_atN (P := Try.prog) 34 21 (some x) n c b off .i64 k Try.underlying34 Try.size21 e hlt
        have ck : wr.cell? ⟨b, off + k, none⟩ = some (.int .i32 (s k)) := O.cell (by simp) (hc k (by omega))
        have cw : wr.cell? ⟨w.heap.size, k, none⟩ = some (.int .i32 0) := (R.cell hlt).trans (by simp)
        have fw := R.frozen k
        have FIN : Hid (Row (wr.setCell ⟨w.heap.size, k, none⟩ (.int .i32 (s k))) w.heap.size 21 n (fun j => if j < k + 1 then .int .i32 (s j) else .int .i32 0) ∧ Only [] w (wr.setCell ⟨w.heap.size, k, none⟩ (.int .i32 (s k)))) := by
          refine ⟨(R.set k _).ext (fun j hj => ?_), O.set _ _ _ (.inr (Nat.le_refl _))⟩
          by_cases e : j = k
          · subst e; rw [upd_at, if_pos (by omega)]
          · rw [upd_ne _ _ e]
            by_cases h1 : j < k
            · rw [if_pos h1, if_pos (by omega)]
            · rw [if_neg h1, if_neg (by omega)]
        clear hc e hE R O
        go_wp2
        go_roundw
        case rel => exact ⟨k + 1, by omega, by go_num, FIN.out⟩
        case measure => simp [intOf]; omega
      · have FIN : Hid (CloneP .i32 n s w (.returned (.slice (some ⟨w.heap.size, 0, none⟩) n n)) wr) :=
          ⟨_, _, rfl, fun _ => ⟨w.heap.size, 0, rfl, R.lt, fun i hi => by rw [Nat.zero_add, R.cell hi, if_pos (by omega)]⟩, ⟨(fun _ _ h => by cases h; exact Nat.le_refl _), Nat.le_refl _⟩, O⟩
        clear hE R O
        go_wp2
        go_ret
        exact FIN.out
/-- The copies of the lists made so far. -/
structure AtU (un : Nat → Nat) (uf : Nat → Nat → Int) (Y : Nat) (wr : World) (k : Nat) (sa : Nat → Option Addr) : Prop where
  f : ∀ i, i < k → ∀ b o, sa i = some ⟨b, o, none⟩ → Y < b
  g : ∀ i, i < k → Has wr wr.heap.size .i32 (sa i) (un i) (uf i)
def updA {α : Type} (f : Nat → α) (k : Nat) (v : α) : Nat → α := fun i => if i = k then v else f i
theorem updA_at {α : Type} (f : Nat → α) (k : Nat) (v : α) : updA f k v k = v := by simp [updA]
theorem updA_ne {α : Type} (f : Nat → α) {k i : Nat} (v : α) (h : i ≠ k) : updA f k v i = f i := by simp [updA, h]
theorem AtU.next {un : Nat → Nat} {uf : Nat → Nat → Int} {Y : Nat} {wr w1 w2 : World} {k : Nat} {sa : Nat → Option Addr} (H : AtU un uf Y wr k sa) (O1 : Only [] wr w1) (O2 : Only [Y] w1 w2) (a : Option Addr)
    (hf : ∀ b o, a = some ⟨b, o, none⟩ → wr.heap.size ≤ b) (hY : Y < wr.heap.size) (hE : Has w1 w1.heap.size .i32 a (un k) (uf k)) : AtU un uf Y w2 (k + 1) (updA sa k a) := by
  refine ⟨fun i hi b o e => ?_, fun i hi => ?_⟩
  · by_cases h : i = k
    · subst h; rw [updA_at] at e; have := hf b o e; omega
    · rw [updA_ne _ _ h] at e; exact H.f i (by omega) b o e
  · by_cases h : i = k
    · subst h; rw [updA_at]; exact hE.up1 O2 (fun b o e => by have := hf b o e; omega) O2.size
    · rw [updA_ne _ _ h]; exact ((H.g i (by omega)).up O1 O1.size).up1 O2 (fun b o e => by have := H.f i (by omega) b o e; omega) O2.size
def ListsP (n : Nat) (un : Nat → Nat) (uf : Nat → Nat → Int) (w : World) (e : Ending) (w' : World) : Prop :=
  ∃ (a' : Option Addr) (c' : Nat) (sa : Nat → Option Addr) (sc : Nat → Nat), e = .returned (.slice a' n c') ∧ (0 < n → ∃ b off, a' = some ⟨b, off, none⟩ ∧ b < w'.heap.size ∧ ∀ i, i < n → w'.cell? ⟨b, off + i, none⟩ = some (.slice (sa i) (un i) (sc i))) ∧ (∀ i, i < n → Has w' w'.heap.size .i32 (sa i) (un i) (uf i)) ∧ ((∀ b o, a' = some ⟨b, o, none⟩ → w.heap.size ≤ b) ∧ ∀ i, i < n → ∀ b o, sa i = some ⟨b, o, none⟩ → w.heap.size ≤ b) ∧ Only [] w w'
set_option maxRecDepth 100000 in
set_option maxHeartbeats 4000000 in
theorem clone50 (m : M) (B : Nat) (w : World) (h8 : HasU w B m) (hu : ∀ i, i < m.n8 → Has w B .i32 (m.ua i) (m.un i) (m.uf i)) (hn : m.n8 ≤ 262144) (hx : ∀ i, i < m.n8 → m.un i ≤ 262144) :
    Calls Try.prog 50 #[.slice m.a8 m.n8 m.c8] w fun e w' => ListsP m.n8 m.un m.uf w e w' := by
  have hnn := nil_eq 35 34 m.a8 m.n8 m.c8 Try.underlying35
  cases hs : m.a8 with
  | none =>
    have h0 : m.n8 = 0 := by
      by_cases h : 0 < m.n8
      · obtain ⟨_, _, e, _⟩ := h8 h; rw [hs] at e; cases e
      · omega
    rw [hs] at hnn
    have FIN : Hid (ListsP m.n8 m.un m.uf w (.returned (.slice none 0 0)) w) := ⟨none, 0, m.ua, m.uc, by rw [h0], fun h => by omega, fun i hi => by omega, ⟨(fun _ _ h => by cases h), fun i hi => by omega⟩, Only.refl _ _⟩
    clear h8 hu hs h0
    go_enter Try.func50, Try.ntmps50
    go_wp2
    go_ret
    exact FIN.out
  | some x =>
    rw [hs] at hnn
    have HX : Hid (m.a8 = some x) := hs
    clear hs
    have hmk : ∀ w : World, (Instr.makeSlice 35 (.int .i64 (m.n8 : Int)) (.int .i64 (m.n8 : Int))).run Try.prog w = .ok (.slice (some ⟨w.heap.size, 0, none⟩) m.n8 m.n8) (w.alloc (.cells (Array.replicate m.n8 (.slice none 0 0)) 34)) := fun w => by
      have h := run_make_list (P := Try.prog) 35 34 (.slice none 0 0) (.slice none 0 0) 1 24 m.n8 Try.underlying35 Try.inf34 rfl (by omega) .i64 .i64 (by omega) (by omega) w
      simpa using h
    have R0 := Row.zeros w m.n8 (.slice none 0 0) 34
    have O0 := Only.alloc [] w (.cells (Array.replicate m.n8 (.slice none 0 0)) 34)
    go_enter Try.func50, Try.ntmps50
    go_wp2
    go_loopw [4] (fun i wr => ∃ (k : Nat) (sa : Nat → Option Addr) (sc : Nat → Nat), k ≤ m.n8 ∧ i = .int .i64 k ∧ Row wr w.heap.size 34 m.n8 (fun j => if j < k then .slice (sa j) (m.un j) (sc j) else .slice none 0 0) ∧ AtU m.un m.uf w.heap.size wr k sa ∧ Only [] w wr) (fun i _ => m.n8 - (intOf i).toNat)
    case atStart => exact ⟨0, fun _ => none, fun _ => 0, by omega, rfl, R0.ext (fun j _ => by simp), ⟨fun i hi => by omega, fun i hi => by omega⟩, O0⟩
    case round =>
      clear R0 O0 hmk hnn
      obtain ⟨k, sa, sc, hk, rfl, R, Z, O⟩ := hrel
      by_cases hlt : k < m.n8
      · obtain ⟨b, o, e, _, hc⟩ := h8 (by omega)
        have hix := run_atN (P := Try.prog) 35 34 (some x) m.n8 m.c8 b o .i64 k Try.underlying35 Try.size34 (HX.out ▸ e) hlt
        have ck := O.cell (by simp) (hc k hlt)
        have gk := (hu k hlt).up O (Nat.le_refl B)
        have xk := hx k hlt
        clear h8 hu e hc
        go_wp2_with fail
        refine (clone49 _ _ _ _ B wr gk xk).mono ?_
        rintro e w1 ⟨a', c', rfl, hE, ⟨hf, _⟩, O1⟩
        have R1 := R.keep O1 (by simp)
        have cw := R1.cell hlt
        have fw := R1.frozen k
        have HF : Hid (Row (w1.setCell ⟨w.heap.size, k, none⟩ (.slice a' (m.un k) c')) w.heap.size 34 m.n8 (fun j => if j < k + 1 then .slice (updA sa k a' j) (m.un j) (updA sc k c' j) else .slice none 0 0) ∧ AtU m.un m.uf w.heap.size (w1.setCell ⟨w.heap.size, k, none⟩ (.slice a' (m.un k) c')) (k + 1) (updA sa k a') ∧ Only [] w (w1.setCell ⟨w.heap.size, k, none⟩ (.slice a' (m.un k) c'))) := by
          refine ⟨(R1.set k _).ext (fun j hj => ?_), Z.next O1 ((Only.refl _ _).set _ _ _ (.inl (by simp))) a' hf R.lt hE, (O.trans O1).set _ _ _ (.inr (Nat.le_refl _))⟩
          by_cases e : j = k
          · subst e; rw [upd_at, if_pos (by omega), updA_at, updA_at]
          · rw [upd_ne _ _ e]
            by_cases h1 : j < k
            · rw [if_pos h1, if_pos (by omega), updA_ne _ _ e, updA_ne _ _ e]
            · rw [if_neg h1, if_neg (by omega)]
        clear R R1 Z O O1 hE hf gk
        go_wp2
        go_roundw
        case rel => exact ⟨k + 1, _, _, by omega, by go_num, HF.out⟩
        case measure => simp [intOf]; omega
      · obtain rfl : k = m.n8 := by omega
        have FIN : Hid (ListsP m.n8 m.un m.uf w (.returned (.slice (some ⟨w.heap.size, 0, none⟩) m.n8 m.n8)) wr) := ⟨_, _, sa, sc, rfl, fun _ => ⟨w.heap.size, 0, rfl, R.lt, fun i hi => by rw [Nat.zero_add, R.cell hi, if_pos hi]⟩, Z.g, ⟨(fun _ _ h => by cases h; exact Nat.le_refl _), fun i hi b o e => Nat.le_of_lt (Z.f i hi b o e)⟩, O⟩
        clear h8 hu R Z O hx
        go_wp2
        go_ret
        exact FIN.out
end Go.Proofs.Qxb6602564a
