/-
  WHAT radix COMPUTES, in plain words, and the small laws by which its walk goes from round to round.
-/
import Derived.Test.Qxb6602564aSmall
import Derived.Test.Qxb6602564aPlain
import Derived.Lib.QuietBelow
namespace Go.Proofs.Qxb6602564a
open Go.RowKit
set_option linter.unusedVariables false

abbrev Key := Int × Int × Int
/-- The field f of a key, as 'field' gives it. -/
def fieldv (f : Nat) (x : Key) : Int := if f = 0 then x.2.2 else if f = 1 then wrap64 (-x.2.1) else x.1
theorem field55 (x : Key) (f : Nat) (w : World) :
    Calls Try.prog 55 #[.agg #[.int .i64 x.1, .int .i64 x.2.1, .int .i64 x.2.2], .int .i64 (f : Int)] w fun e w' => e = .returned (.int .i64 (fieldv f x)) ∧ Below w.heap.size w w' := by
  by_cases h0 : f = 0
  · subst h0
    go_enter Try.func55, Try.ntmps55
    go_wp2
    go_ret
    exact ⟨rfl, (Below.refl _ _).alloc (Nat.le_refl _) _⟩
  · by_cases h1 : f = 1
    · subst h1
      go_enter Try.func55, Try.ntmps55
      go_wp2
      go_ret
      exact ⟨rfl, (Below.refl _ _).alloc (Nat.le_refl _) _⟩
    · have e : fieldv f x = x.1 := by simp [fieldv, h0, h1]
      rw [e]
      have n0 : ((f : Int) == 0) = false := by simp; omega
      have n1 : ((f : Int) == 1) = false := by simp; omega
      clear h0 h1 e
      go_enter Try.func55, Try.ntmps55
      go_wp2
      go_ret
      exact ⟨rfl, (Below.refl _ _).alloc (Nat.le_refl _) _⟩

theorem keyCells {w : World} {b n k : Nat} {y : Nat → Key} (r : Row w b 62 (n * 3) (keyv y)) (hk : k < n) :
    w.cell? ⟨b, k * 3, none⟩ = some (.int .i64 (y k).1) ∧ w.cell? ⟨b, k * 3 + 1, none⟩ = some (.int .i64 (y k).2.1) ∧ w.cell? ⟨b, k * 3 + 2, none⟩ = some (.int .i64 (y k).2.2) := by
  refine ⟨?_, ?_, ?_⟩
  · rw [r.cell (by omega), keyv0]
  · rw [r.cell (by omega), keyv1]
  · rw [r.cell (by omega), keyv2]
/-- A new block that holds one key. -/
theorem oneKey (w : World) (x : Key) : ∃ w2, w2 = w.alloc (.cells #[.int .i64 x.1, .int .i64 x.2.1, .int .i64 x.2.2] 62) ∧ Only [] w w2 ∧ w2.heap.size = w.heap.size + 1 ∧
    w2.cell? ⟨w.heap.size, 0, none⟩ = some (.int .i64 x.1) ∧ w2.cell? ⟨w.heap.size, 1, none⟩ = some (.int .i64 x.2.1) ∧ w2.cell? ⟨w.heap.size, 2, none⟩ = some (.int .i64 x.2.2) :=
  ⟨_, rfl, Only.alloc _ _ _, by simp, by simp [World.cell?_alloc_at], by simp [World.cell?_alloc_at], by simp [World.cell?_alloc_at]⟩

/-! ### the operations that want a law of their own -/
/-- x >> s (s at most 64). -/
def shrv (x : Int) (s : Nat) : Int := x / 2 ^ s
def z257 : Array Value := Array.replicate 257 (.int .i64 0)
theorem info65 : (Try.prog.info? 65).map (fun i => i.zero) = some (some (.agg z257)) := by kernel_rfl
theorem run_zero65 (w : World) : (zeroValue 65).run Try.prog w = .ok (.agg z257) w := by
  obtain ⟨i, hi, hz⟩ := Option.map_eq_some_iff.1 info65
  simp [zeroValue, typeInfo, hi, hz]
theorem row257 (w : World) (b : Nat → Nat) : Row (w.alloc (.cells z257 65)) w.heap.size 65 257 (fun _ => .int .i64 0) := Row.zeros w 257 _ 65
/-- 'copy(dst, src)' between two rows of n elements of 'size' cells: whatever dst held, it holds what src holds. -/
theorem run_copy_rows {P : Program} (w : World) (dT ty elem : TypeId) (size n c1 c2 : Nat) (T T' : TypeId) (g sb : Nat) (f f0 : Nat → Value)
    (hu : P.underlying dT = some (.slice elem)) (hs : (P.info? elem).map (·.size) = some size) (rg : Row w g T (n * size) f0) (rs : Row w sb T' (n * size) f) (h1 : ∀ i, (f i).oneCell' = true) :
    ∃ w', (Builtin.copy_ #[dT, dT] ty #[.slice (some ⟨g, 0, none⟩) n c1, .slice (some ⟨sb, 0, none⟩) n c2]).run P w = .ok (goInt n) w' ∧ Row w' g T (n * size) f ∧ Only [g] w w' := by
  obtain ⟨cur, hcur, hsz, _⟩ := rg
  have hl : ((List.range (n * size)).map f).length = n * size := by simp
  have hsrc : ∀ j v, ((List.range (n * size)).map f)[j]? = some v → w.cell? ((⟨sb, 0, none⟩ : Addr).add j) = some v := by
    intro j v hj
    have hjl : j < n * size := by have := (List.getElem?_eq_some_iff.1 hj).1; simpa using this
    simp [hjl] at hj
    have e : (⟨sb, 0, none⟩ : Addr).add j = ⟨sb, j, none⟩ := by unfold Addr.add; split <;> simp_all
    rw [e, rs.cell hjl, hj]
  have hf := run_firstCells_some (P := P) w size n ⟨sb, 0, none⟩ n c2 _ hl hsrc
  have hst := run_storeCells_at P g 0 T ((List.range (n * size)).map f) 0 cur w hcur (by simpa using hsz) (by intro v hv; simp at hv; obtain ⟨a, _, rfl⟩ := hv; exact h1 a)
  refine ⟨w.setRow g (cur.toList.take (0 + 0) ++ ((List.range (n * size)).map f) ++ cur.toList.drop (0 + 0 + ((List.range (n * size)).map f).length)).toArray, ?_, ?_, ?_⟩
  · cases hq : P.info? elem with
    | none => simp [hq] at hs
    | some i =>
      have hi : i.size = size := by simpa [hq] using hs
      simp only [Builtin.copy_, Builtin.lenOf, sizeOf, typeInfo]
      simp [hf, hst, run_underlying hu, hq, hi]
  · refine ⟨_, setRow_heap w g cur _ T _ hcur, by simp, fun i hi => ?_⟩
    rw [List.getElem?_toArray, List.append_assoc, List.getElem?_append_right (by simp), List.getElem?_append_left (by simpa using hi)]
    simp [hi]
  · exact ⟨rfl, rfl, rfl, by simp, fun k _ hn => setRow_other w g k _ (by simpa using hn)⟩
theorem i64_and255 (n : Int) : bits .and .i64 n 255 = n % 256 := by
  have h127 : (BitVec.ofInt 64 255).toNat = 2 ^ 8 - 1 := by decide
  have key : (BitVec.ofInt 64 n &&& BitVec.ofInt 64 255).toNat = (n % ((2 ^ 64 : Nat) : Int)).toNat % 2 ^ 8 := by
    rw [BitVec.toNat_and, BitVec.toNat_ofInt, h127, Nat.and_two_pow_sub_one_eq_mod]
  show IntKind.i64.wrap ((BitVec.ofInt 64 n &&& BitVec.ofInt 64 255).toNat : Nat) = n % 256
  rw [key, IntKind.wrap_i64]
  omega
/-- A signed number shifted by 64 or more: nothing above zero is left. -/
theorem shr_done (x : Int) : ¬ 0 < shrv (wrap64 x) 64 := by
  have h1 : wrap64 x < 9223372036854775808 := by unfold wrap64; omega
  have h2 : -9223372036854775808 ≤ wrap64 x := by unfold wrap64; omega
  unfold shrv
  intro h
  have e : (2 : Int) ^ 64 = 18446744073709551616 := by decide
  rw [e] at h
  omega

/-! ### what the loops compute -/
def loN (f : Nat) (y : Nat → Key) : Nat → Int
  | 0 => fieldv f (y 0)
  | k + 1 => if fieldv f (y k) < loN f y k then fieldv f (y k) else loN f y k
def hiN (f : Nat) (y : Nat → Key) : Nat → Int
  | 0 => fieldv f (y 0)
  | k + 1 => if hiN f y k < fieldv f (y k) then fieldv f (y k) else hiN f y k
/-- The byte of a key in the pass at shift s. -/
def byteN (f : Nat) (lo : Int) (s : Nat) (x : Key) : Nat := (shrv (wrap64 (fieldv f x - lo)) s % 256).toNat
theorem byteN_lt (f : Nat) (lo : Int) (s : Nat) (x : Key) : byteN f lo s x < 256 := by unfold byteN; omega
theorem byteN_eq (f : Nat) (lo : Int) (s : Nat) (x : Key) : shrv (wrap64 (fieldv f x - lo)) s % 256 = (byteN f lo s x : Int) := by unfold byteN; omega
/-- The keys behind one pass. -/
def nxt (n f : Nat) (lo : Int) (s : Nat) (y : Nat → Key) : Nat → Key := Count.pass (fun i => byteN f lo s (y i)) n y
def runs (n f : Nat) (lo D : Int) : Nat → Nat → (Nat → Key) → Nat → Key
  | 0, _, y => y
  | j + 1, s, y => if 0 < shrv D s then runs n f lo D j (s + 8) (nxt n f lo s y) else y
def sortF (n f : Nat) (y : Nat → Key) : Nat → Key := runs n f (loN f y n) (wrap64 (hiN f y n - loN f y n)) 8 0 y
/-- The keys as radix leaves them: g fields are left, from f on. -/
def sortK (n : Nat) : Nat → Nat → (Nat → Key) → Nat → Key
  | 0, _, y => y
  | g + 1, f, y => sortK n g (f + 1) (sortF n f y)

/-! ### the counts in the array -/
open Count
def aCount (b : Nat → Nat) (i : Nat) : Nat → Int := fun j => if j = 0 then 0 else (cnt b i (j - 1) : Int)
def aPre (b : Nat → Nat) (n c : Nat) : Nat → Int := fun j => if j < c then (below b n j : Int) else aCount b n j
def aRun (b : Nat → Nat) (n i : Nat) : Nat → Int := fun j => ((below b n j + cnt b i j : Nat) : Int)
theorem aCount_zero (b : Nat → Nat) (j : Nat) : (Value.int .i64 0) = ints (aCount b 0) j := by unfold ints aCount; split <;> simp [cnt]
theorem aCount_at (b : Nat → Nat) (i c : Nat) : aCount b i (c + 1) = (cnt b i c : Int) := by simp [aCount]
theorem aCount_step (b : Nat → Nat) (i j : Nat) : upd (ints (aCount b i)) (b i + 1) (.int .i64 ((cnt b i (b i) : Int) + 1)) j = ints (aCount b (i + 1)) j := by
  by_cases h : j = b i + 1
  · subst h; rw [upd_at]; unfold ints; rw [aCount_at, cnt_hit]; simp
  · rw [upd_ne _ _ h]; unfold ints aCount
    by_cases h0 : j = 0
    · simp [h0]
    · simp only [h0, if_false]; rw [cnt_miss]; omega
theorem aPre_one (b : Nat → Nat) (n j : Nat) : ints (aCount b n) j = ints (aPre b n 1) j := by
  unfold ints aPre
  by_cases h : j < 1
  · have : j = 0 := by omega
    subst this; simp [aCount, below]
  · simp [h]
theorem aPre_at (b : Nat → Nat) (n c : Nat) (hc : 1 ≤ c) : aPre b n c c = (cnt b n (c - 1) : Int) := by
  unfold aPre aCount; rw [if_neg (by omega), if_neg (by omega)]
theorem aPre_before (b : Nat → Nat) (n c : Nat) (hc : 1 ≤ c) : aPre b n c (c - 1) = (below b n (c - 1) : Int) := by
  unfold aPre; rw [if_pos (by omega)]
theorem below_sum (b : Nat → Nat) (n c : Nat) (hc : 1 ≤ c) : cnt b n (c - 1) + below b n (c - 1) = below b n c := by
  obtain ⟨d, rfl⟩ : ∃ d, c = d + 1 := ⟨c - 1, by omega⟩
  simp [below]; omega
theorem aPre_step (b : Nat → Nat) (n c j : Nat) (hc : 1 ≤ c) : upd (ints (aPre b n c)) c (.int .i64 ((cnt b n (c - 1) : Int) + (below b n (c - 1) : Int))) j = ints (aPre b n (c + 1)) j := by
  by_cases h : j = c
  · subst h; rw [upd_at]; unfold ints aPre; rw [if_pos (by omega), ← below_sum b n j hc]; simp
  · rw [upd_ne _ _ h]; unfold ints aPre
    by_cases h1 : j < c
    · rw [if_pos h1, if_pos (by omega)]
    · rw [if_neg h1, if_neg (by omega)]
theorem aRun_zero (b : Nat → Nat) (n j : Nat) (hj : j < 257) : ints (aPre b n 257) j = ints (aRun b n 0) j := by
  unfold ints aPre aRun; rw [if_pos hj]; simp [cnt]
theorem aRun_step (b : Nat → Nat) (n i j : Nat) : upd (ints (aRun b n i)) (b i) (.int .i64 (((below b n (b i) + cnt b i (b i) : Nat) : Int) + 1)) j = ints (aRun b n (i + 1)) j := by
  by_cases h : j = b i
  · subst h; rw [upd_at]; unfold ints aRun; rw [cnt_hit]; congr 1
  · rw [upd_ne _ _ h]; unfold ints aRun; rw [cnt_miss]; omega

/-! ### the keys in their places -/
/-- The keys before number i lie in their places. -/
def Placed (b : Nat → Nat) (n : Nat) (y : Nat → Key) (i : Nat) (g : Nat → Value) : Prop :=
  ∀ i', i' < i → g (pos b n i' * 3) = .int .i64 (y i').1 ∧ g (pos b n i' * 3 + 1) = .int .i64 (y i').2.1 ∧ g (pos b n i' * 3 + 2) = .int .i64 (y i').2.2
theorem placed_step {b : Nat → Nat} {n : Nat} {y : Nat → Key} {i : Nat} {g : Nat → Value} (h : Placed b n y i g) (hi : i < n) :
    Placed b n y (i + 1) (upd3 g (pos b n i * 3) (.int .i64 (y i).1) (.int .i64 (y i).2.1) (.int .i64 (y i).2.2)) := by
  intro i' hi'
  by_cases e : i' = i
  · subst e; exact ⟨upd3_0 _ _ _ _ _, upd3_1 _ _ _ _ _, upd3_2 _ _ _ _ _⟩
  · have hp : pos b n i' ≠ pos b n i := fun he => e (pos_inj b n i' i (by omega) hi he)
    obtain ⟨h0, h1, h2⟩ := h i' (by omega)
    exact ⟨by rw [upd3_other _ _ _ _ _ _ (by omega)]; exact h0, by rw [upd3_other _ _ _ _ _ _ (by omega)]; exact h1, by rw [upd3_other _ _ _ _ _ _ (by omega)]; exact h2⟩
theorem placed_all {b : Nat → Nat} {n : Nat} {y : Nat → Key} {g : Nat → Value} (h : Placed b n y n g) (hb : ∀ i, i < n → b i < 256) (c : Nat) (hc : c < n * 3) : g c = keyv (Count.pass b n y) c := by
  obtain ⟨i, hi, hp⟩ := pos_surj b n (c / 3) hb (by omega)
  obtain ⟨h0, h1, h2⟩ := h i hi
  have hx := pass_at b n y i hi
  rw [hp] at h0 h1 h2 hx
  have h3 : c = c / 3 * 3 ∨ c = c / 3 * 3 + 1 ∨ c = c / 3 * 3 + 2 := by omega
  rcases h3 with e | e | e
  · rw [e, keyv0, hx, h0]
  · rw [e, keyv1, hx, h1]
  · rw [e, keyv2, hx, h2]
end Go.Proofs.Qxb6602564a
