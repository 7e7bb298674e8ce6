/-
  THE SMALL WALKS OF THE RADIX LAW: cloneInts, sameInts, zzB1DealKeys, zzB1SplitKeys.
-/
import Derived.Test.Qxb6602564aRows
import Derived.Test.Qxb6602564aMem
namespace Go.Proofs.Qxb6602564a
open Go.RowKit
set_option linter.unusedVariables false
theorem Try.info3 : (Try.prog.info? 3).map (fun i => (i.zero, i.size, i.bytes)) = some (some (.int .i64 0), 1, 8) := by kernel_rfl
theorem Try.info62 : (Try.prog.info? 62).map (fun i => (i.zero, i.size, i.bytes)) = some (some (.agg #[.int .i64 0, .int .i64 0, .int .i64 0]), 3, 24) := by kernel_rfl

/-- The numbers z as cells. -/
def ints (z : Nat → Int) : Nat → Value := fun i => .int .i64 (z i)
/-- The first k of z, zeros behind. -/
def upto (z : Nat → Int) (k : Nat) : Nat → Value := fun i => .int .i64 (if i < k then z i else 0)
theorem upto_zero (z : Nat → Int) (i : Nat) : (Value.int .i64 0) = upto z 0 i := by simp [upto]
theorem upto_step (z : Nat → Int) (k i : Nat) : upd (upto z k) k (.int .i64 (z k)) i = upto z (k + 1) i := by
  by_cases h : i = k
  · subst h; simp [upd, upto]
  · rw [upd_ne _ _ h]; unfold upto; by_cases h1 : i < k
    · rw [if_pos h1, if_pos (by omega)]
    · rw [if_neg h1, if_neg (by omega)]
theorem upto_all (z : Nat → Int) (n i : Nat) (h : i < n) : upto z n i = ints z i := by simp [upto, ints, h]

/-- What cloneInts leaves: a new row of its own, the same numbers. -/
def Cloned (w w' : World) (n : Nat) (z : Nat → Int) : Prop := Row w' w.heap.size 3 n (ints z) ∧ Only [] w w'

theorem clone23 (b off len cap : Nat) (z : Nat → Int) (w : World) (hl : len ≤ 65536) (hc : ∀ i, i < len → w.cell? ⟨b, off + i, none⟩ = some (.int .i64 (z i))) :
    Calls Try.prog 23 #[.slice (some ⟨b, off, none⟩) len cap] w fun e w' => e = .returned (.slice (some ⟨w.heap.size, 0, none⟩) len len) ∧ Cloned w w' len z := by
  have hn := fun w => Lib.run_eql_slice_nil (P := Try.prog) w 26 3 (some ⟨b, off, none⟩) len cap 0 0 Try.underlying26
  have hmk := fun w => run_make_list (P := Try.prog) 26 3 (.int .i64 0) (.int .i64 0) 1 8 len Try.underlying26 Try.info3 rfl (by omega) .i64 .i64 (by omega) (by omega) w
  simp only [Nat.mul_one] at hmk
  go_enter Try.func23, Try.ntmps23
  go_wp2
  go_loopw [4] (fun i wr => ∃ k : Nat, k ≤ len ∧ i = .int .i64 k ∧ Row wr w.heap.size 3 len (upto z k) ∧ Only [] w wr) (fun i _ => len - (intOf i).toNat)
  case atStart => exact ⟨0, by omega, rfl, (Row.zeros w len _ 3).ext (fun i _ => upto_zero z i), Only.alloc _ _ _⟩
  case round =>
    obtain ⟨k, hk, rfl, hrow, honly⟩ := hrel
    by_cases hlt : k < len
    · have ck := honly.cell (by simp) (hc k hlt)
      have cd := hrow.cell hlt
      have fd := hrow.frozen k
      have R := (hrow.set k (.int .i64 (z k))).ext (fun i _ => upto_step z k i)
      have O := honly.set (w.heap.size) k (.int .i64 (z k)) (.inr (by omega))
      clear hn hmk hc hrow honly
      go_wp2
      go_roundw
      case rel => exact ⟨k + 1, by omega, by go_num, R, O⟩
      case measure => simp [intOf]; omega
    · have e : k = len := by omega
      have R := hrow.ext (fun i hi => upto_all z k i (by omega))
      clear hn hmk hc
      go_wp2
      go_ret
      subst e
      exact ⟨rfl, R, honly⟩

theorem same26 (b0 b1 n c0 c1 : Nat) (z : Nat → Int) (w : World) (hl : n ≤ 65536) (r0 : Row w b0 3 n (ints z)) (r1 : Row w b1 3 n (ints z)) :
    Calls Try.prog 26 #[.slice (some ⟨b0, 0, none⟩) n c0, .slice (some ⟨b1, 0, none⟩) n c1] w fun e w' => e = .returned (.bool true) ∧ Only [] w w' := by
  go_enter Try.func26, Try.ntmps26
  go_wp2
  go_loopw [5] (fun i wr => ∃ k : Nat, k ≤ n ∧ i = .int .i64 k ∧ Only [] w wr) (fun i _ => n - (intOf i).toNat)
  case atStart => exact ⟨0, by omega, rfl, Only.refl _ _⟩
  case round =>
    obtain ⟨k, hk, rfl, ho⟩ := hrel
    by_cases hlt : k < n
    · have e0 : wr.cell? ⟨b0, k, none⟩ = some (.int .i64 (z k)) := (r0.keep ho (by simp)).cell hlt
      have e1 : wr.cell? ⟨b1, k, none⟩ = some (.int .i64 (z k)) := (r1.keep ho (by simp)).cell hlt
      have hli : (k : Int) < (n : Int) := by omega
      clear r0 r1
      go_wp2
      go_quiet (fail)
      go_wp2
      go_roundw
      case rel => exact ⟨k + 1, by omega, by go_num, ho.trans (Only.drewN _ _ _)⟩
      case measure => simp [intOf]; omega
    · go_wp2
      go_ret
      exact ⟨rfl, ho⟩

/-- Cell i of a row of keys: the key i / 3's total, held, node. -/
def keyv (x : Nat → Int × Int × Int) : Nat → Value := fun i => .int .i64 (if i % 3 = 0 then (x (i / 3)).1 else if i % 3 = 1 then (x (i / 3)).2.1 else (x (i / 3)).2.2)
theorem keyv0 (x : Nat → Int × Int × Int) (k : Nat) : keyv x (k * 3) = .int .i64 (x k).1 := by
  have e1 : k * 3 % 3 = 0 := by omega
  have e2 : k * 3 / 3 = k := by omega
  simp only [keyv, e1, e2, if_pos]
theorem keyv1 (x : Nat → Int × Int × Int) (k : Nat) : keyv x (k * 3 + 1) = .int .i64 (x k).2.1 := by
  have e1 : (k * 3 + 1) % 3 = 1 := by omega
  have e2 : (k * 3 + 1) / 3 = k := by omega
  simp only [keyv, e1, e2]; rfl
theorem keyv2 (x : Nat → Int × Int × Int) (k : Nat) : keyv x (k * 3 + 2) = .int .i64 (x k).2.2 := by
  have e1 : (k * 3 + 2) % 3 = 2 := by omega
  have e2 : (k * 3 + 2) / 3 = k := by omega
  simp only [keyv, e1, e2]; rfl
/-- The first k keys, zeros behind. -/
def keyUpto (x : Nat → Int × Int × Int) (k : Nat) : Nat → Value := fun i => if i < k * 3 then keyv x i else .int .i64 0
def upd3 (f : Nat → Value) (i : Nat) (a b c : Value) : Nat → Value := upd (upd (upd f i a) (i + 1) b) (i + 2) c
theorem upd3_other (f : Nat → Value) (i j : Nat) (a b c : Value) (h : j < i ∨ i + 3 ≤ j) : upd3 f i a b c j = f j := by
  unfold upd3; rw [upd_ne _ _ (by omega), upd_ne _ _ (by omega), upd_ne _ _ (by omega)]
theorem upd3_0 (f : Nat → Value) (i : Nat) (a b c : Value) : upd3 f i a b c i = a := by
  unfold upd3; rw [upd_ne _ _ (by omega), upd_ne _ _ (by omega), upd_at]
theorem upd3_1 (f : Nat → Value) (i : Nat) (a b c : Value) : upd3 f i a b c (i + 1) = b := by
  unfold upd3; rw [upd_ne _ _ (by omega), upd_at]
theorem upd3_2 (f : Nat → Value) (i : Nat) (a b c : Value) : upd3 f i a b c (i + 2) = c := by
  unfold upd3; rw [upd_at]
theorem keyUpto_step (x : Nat → Int × Int × Int) (k i : Nat) : upd3 (keyUpto x k) (k * 3) (.int .i64 (x k).1) (.int .i64 (x k).2.1) (.int .i64 (x k).2.2) i = keyUpto x (k + 1) i := by
  by_cases h1 : i < k * 3
  · rw [upd3_other _ _ _ _ _ _ (.inl h1)]; unfold keyUpto; rw [if_pos h1, if_pos (by omega)]
  · by_cases h2 : k * 3 + 3 ≤ i
    · rw [upd3_other _ _ _ _ _ _ (.inr h2)]; unfold keyUpto; rw [if_neg h1, if_neg (by omega)]
    · have h3 : i = k * 3 ∨ i = k * 3 + 1 ∨ i = k * 3 + 2 := by omega
      unfold keyUpto
      rcases h3 with rfl | rfl | rfl
      · rw [upd3_0, if_pos (by omega), keyv0]
      · rw [upd3_1, if_pos (by omega), keyv1]
      · rw [upd3_2, if_pos (by omega), keyv2]
theorem Row.set3 {w : World} {b : Nat} {T : TypeId} {m : Nat} {f : Nat → Value} (h : Row w b T m f) (i : Nat) (x y z : Value) :
    Row (((w.setCell ⟨b, i, none⟩ x).setCell ⟨b, i + 1, none⟩ y).setCell ⟨b, i + 2, none⟩ z) b T m (upd3 f i x y z) := ((h.set i x).set (i + 1) y).set (i + 2) z
theorem Only.set3 {S : List Nat} {w0 w : World} (h : Only S w0 w) (b i : Nat) (x y z : Value) (hb : b ∈ S ∨ w0.heap.size ≤ b) :
    Only S w0 (((w.setCell ⟨b, i, none⟩ x).setCell ⟨b, i + 1, none⟩ y).setCell ⟨b, i + 2, none⟩ z) := ((h.set _ _ x hb).set _ _ y hb).set _ _ z hb

theorem deal44 (b0 b1 b2 n c0 c1 c2 : Nat) (t h nd : Nat → Int) (w : World) (hl : n ≤ 65536) (r0 : Row w b0 3 n (ints t)) (r1 : Row w b1 3 n (ints h)) (r2 : Row w b2 3 n (ints nd)) :
    Calls Try.prog 44 #[.slice (some ⟨b0, 0, none⟩) n c0, .slice (some ⟨b1, 0, none⟩) n c1, .slice (some ⟨b2, 0, none⟩) n c2] w fun e w' => e = .returned (.slice (some ⟨w.heap.size, 0, none⟩) n n) ∧ Row w' w.heap.size 62 (n * 3) (keyv (fun i => (t i, h i, nd i))) ∧ Only [] w w' := by
  have hmk := fun w => run_make_list (P := Try.prog) 46 62 (.int .i64 0) _ 3 24 n Try.underlying46 Try.info62 rfl (by omega) .i64 .i64 (by omega) (by omega) w
  go_enter Try.func44, Try.ntmps44
  go_wp2
  go_loopw [8] (fun i wr => ∃ k : Nat, k ≤ n ∧ i = .int .i64 k ∧ Row wr w.heap.size 62 (n * 3) (keyUpto (fun i => (t i, h i, nd i)) k) ∧ Only [] w wr) (fun i _ => n - (intOf i).toNat)
  case atStart => exact ⟨0, by omega, rfl, (Row.zeros w (n * 3) _ 62).ext (fun i _ => by simp [keyUpto]), Only.alloc _ _ _⟩
  case round =>
    obtain ⟨k, hk, rfl, hrow, ho⟩ := hrel
    by_cases hlt : k < n
    · have e0 : wr.cell? ⟨b0, k, none⟩ = some (.int .i64 (t k)) := (r0.keep ho (by simp)).cell hlt
      have e1 : wr.cell? ⟨b1, k, none⟩ = some (.int .i64 (h k)) := (r1.keep ho (by simp)).cell hlt
      have e2 : wr.cell? ⟨b2, k, none⟩ = some (.int .i64 (nd k)) := (r2.keep ho (by simp)).cell hlt
      have hli : (k : Int) < (n : Int) := by omega
      have d0 := hrow.cell (i := k * 3) (by omega)
      have d1 := hrow.cell (i := k * 3 + 1) (by omega)
      have d2 := hrow.cell (i := k * 3 + 2) (by omega)
      have f0 := hrow.frozen (k * 3)
      have f1 := hrow.frozen (k * 3 + 1)
      have f2 := hrow.frozen (k * 3 + 2)
      have R := (hrow.set3 (k * 3) (.int .i64 (t k)) (.int .i64 (h k)) (.int .i64 (nd k))).ext (fun i _ => keyUpto_step (fun i => (t i, h i, nd i)) k i)
      have O := ho.set3 w.heap.size (k * 3) (.int .i64 (t k)) (.int .i64 (h k)) (.int .i64 (nd k)) (.inr (Nat.le_refl _))
      clear r0 r1 r2 hmk hrow ho
      go_wp2
      go_region
      go_wp2
      go_roundw
      case rel => exact ⟨k + 1, by omega, by go_num, R, O.trans (Only.drew _ _)⟩
      case measure => simp [intOf]; omega
    · have e : k = n := by omega
      have R := hrow.ext (g := keyv (fun i => (t i, h i, nd i))) (fun i hi => by unfold keyUpto; rw [if_pos (by omega)])
      clear hmk
      go_wp2
      go_ret
      exact ⟨rfl, R, ho⟩

/-- What zzB1SplitKeys leaves: three new rows. -/
def Split3 (w w' : World) (n : Nat) (t h nd : Nat → Int) : Prop :=
  Row w' w.heap.size 3 n (ints t) ∧ Row w' (w.heap.size + 1) 3 n (ints h) ∧ Row w' (w.heap.size + 1 + 1) 3 n (ints nd) ∧ Only [] w w'

theorem split46 (b n c : Nat) (x : Nat → Int × Int × Int) (w : World) (hl : n ≤ 65536) (r : Row w b 62 (n * 3) (keyv x)) :
    Calls Try.prog 46 #[.slice (some ⟨b, 0, none⟩) n c] w fun e w' =>
      e = .returned (.tuple #[.slice (some ⟨w.heap.size, 0, none⟩) n n, .slice (some ⟨w.heap.size + 1, 0, none⟩) n n, .slice (some ⟨w.heap.size + 1 + 1, 0, none⟩) n n]) ∧ Split3 w w' n (fun i => (x i).1) (fun i => (x i).2.1) (fun i => (x i).2.2) := by
  have hmk := fun w => run_make_list (P := Try.prog) 26 3 (.int .i64 0) (.int .i64 0) 1 8 n Try.underlying26 Try.info3 rfl (by omega) .i64 .i64 (by omega) (by omega) w
  simp only [Nat.mul_one] at hmk
  go_enter Try.func46, Try.ntmps46
  go_wp2
  have hb := r.lt
  go_loopw [8] (fun i wr => ∃ k : Nat, k ≤ n ∧ i = .int .i64 k ∧ Row wr w.heap.size 3 n (upto (fun i => (x i).1) k) ∧ Row wr (w.heap.size + 1) 3 n (upto (fun i => (x i).2.1) k) ∧ Row wr (w.heap.size + 1 + 1) 3 n (upto (fun i => (x i).2.2) k) ∧ Only [] w wr) (fun i _ => n - (intOf i).toNat)
  case atStart =>
    have z0 := Row.zeros w n (.int .i64 0) 3
    have z1 := Row.zeros (w.alloc (.cells (Array.replicate n (.int .i64 0)) 3)) n (.int .i64 0) 3
    have z2 := Row.zeros ((w.alloc (.cells (Array.replicate n (.int .i64 0)) 3)).alloc (.cells (Array.replicate n (.int .i64 0)) 3)) n (.int .i64 0) 3
    simp only [World.size_alloc] at z1 z2
    exact ⟨0, by omega, rfl, ((z0.alloc _).alloc _).ext (fun i _ => upto_zero _ i), (z1.alloc _).ext (fun i _ => upto_zero _ i), z2.ext (fun i _ => upto_zero _ i), ((Only.alloc [] w _).trans (Only.alloc _ _ _)).trans (Only.alloc _ _ _)⟩
  case round =>
    obtain ⟨k, hk, rfl, q0, q1, q2, ho⟩ := hrel
    by_cases hlt : k < n
    · have rk := r.keep ho (by simp)
      have hli : (k : Int) < (n : Int) := by omega
      have c0 := rk.cell (i := k * 3) (by omega)
      rw [keyv0] at c0
      have d0 := q0.cell hlt
      have f0 := q0.frozen k
      have rk1 := rk.other (w.heap.size) k (by omega) (.int .i64 (x k).1)
      have c1 := rk1.cell (i := k * 3 + 1) (by omega)
      rw [keyv1] at c1
      have s1 := q1.other (w.heap.size) k (by omega) (.int .i64 (x k).1)
      have d1 := s1.cell hlt
      have f1 := s1.frozen k
      have rk2 := rk1.other (w.heap.size + 1) k (by omega) (.int .i64 (x k).2.1)
      have c2 := rk2.cell (i := k * 3 + 2) (by omega)
      rw [keyv2] at c2
      have s2 := (q2.other (w.heap.size) k (by omega) (.int .i64 (x k).1)).other (w.heap.size + 1) k (by omega) (.int .i64 (x k).2.1)
      have d2 := s2.cell hlt
      have f2 := s2.frozen k
      have R0 := (((q0.set k (.int .i64 (x k).1)).other (w.heap.size + 1) k (by omega) (.int .i64 (x k).2.1)).other (w.heap.size + 1 + 1) k (by omega) (.int .i64 (x k).2.2)).ext (fun i _ => upto_step (fun i => (x i).1) k i)
      have R1 := ((s1.set k (.int .i64 (x k).2.1)).other (w.heap.size + 1 + 1) k (by omega) (.int .i64 (x k).2.2)).ext (fun i _ => upto_step (fun i => (x i).2.1) k i)
      have R2 := (s2.set k (.int .i64 (x k).2.2)).ext (fun i _ => upto_step (fun i => (x i).2.2) k i)
      have O := ((ho.set (w.heap.size) k (.int .i64 (x k).1) (.inr (by omega))).set (w.heap.size + 1) k (.int .i64 (x k).2.1) (.inr (by omega))).set (w.heap.size + 1 + 1) k (.int .i64 (x k).2.2) (.inr (by omega))
      clear r hmk q0 q1 q2 ho rk rk1 rk2 s1 s2
      go_wp2
      go_roundw
      case rel => exact ⟨k + 1, by omega, by go_num, R0, R1, R2, O⟩
      case measure => simp [intOf]; omega
    · have e : k = n := by omega
      have R0 := q0.ext (fun i hi => upto_all _ k i (by omega))
      have R1 := q1.ext (fun i hi => upto_all _ k i (by omega))
      have R2 := q2.ext (fun i hi => upto_all _ k i (by omega))
      clear hmk
      go_wp2
      go_ret3
      exact ⟨rfl, R0, R1, R2, ho⟩
end Go.Proofs.Qxb6602564a
