/-
  WHAT THE adminRows LAW NEEDS BESIDE THE WALKS: copies of the arguments, and where a row lies in the list of all rows.
-/
import Derived.Test.Qxb6602566aAdRows
namespace Go.Proofs.Qxb6602566a
open Go.RowKit
set_option linter.unusedVariables false

theorem allRows_length (m : A) (k : Nat) : (allRows m k).length = st m k * 8 := by
  induction k with
  | zero => rfl
  | succ k ih =>
    show (allRows m k ++ topRows m k).length = (st m k + _) * 8
    rw [List.length_append, ih, topRows]
    split
    · simp [emptyRow]; omega
    · rw [chanRows_length]; omega
theorem allRows_more (m : A) {i k : Nat} (h : i ≤ k) {x : Nat} (hx : x < st m i * 8) : (allRows m k)[x]? = (allRows m i)[x]? := by
  induction k with
  | zero => obtain rfl : i = 0 := by omega
            rfl
  | succ k ih =>
    by_cases e : i = k + 1
    · subst e; rfl
    · rw [← ih (by omega)]
      show (allRows m k ++ topRows m k)[x]? = _
      have hm := allRows_length m k
      have hl : x < (allRows m k).length := by
        have h1 : st m i * 8 ≤ st m k * 8 := by
          have : ∀ k, i ≤ k → st m i ≤ st m k := by
            intro k hk
            induction k with
            | zero => obtain rfl : i = 0 := by omega
                      exact Nat.le_refl _
            | succ k ihk =>
              by_cases e : i = k + 1
              · subst e; exact Nat.le_refl _
              · exact Nat.le_trans (ihk (by omega)) (Nat.le_add_right _ _)
          have := this k (by omega)
          omega
        omega
      rw [List.getElem?_append_left hl]
theorem allRows_top (m : A) {i k : Nat} (h : i < k) {y : Nat} (hy : y < (topRows m i).length) : (allRows m k)[st m i * 8 + y]? = (topRows m i)[y]? := by
  have hl := allRows_length m i
  have hl' := allRows_length m (i + 1)
  have he : (allRows m (i + 1)).length = (allRows m i).length + (topRows m i).length := by show (allRows m i ++ topRows m i).length = _; rw [List.length_append]
  rw [allRows_more m (show i + 1 ≤ k from h) (by omega)]
  show (allRows m i ++ topRows m i)[_]? = _
  rw [List.getElem?_append_right (by omega)]
  congr 1; omega
theorem chanRows_at (m : A) (i : Nat) {j n : Nat} (h : j < n) {q : Nat} (hq : q < 8) : (chanRows m i n)[j * 8 + q]? = (chanRow m i j)[q]? := by
  induction n with
  | zero => omega
  | succ n ih =>
    show (chanRows m i n ++ chanRow m i n)[_]? = _
    have hl := chanRows_length m i n
    by_cases e : j = n
    · subst e
      rw [List.getElem?_append_right (by omega)]
      congr 1; omega
    · rw [List.getElem?_append_left (by omega)]
      exact ih (by omega)
theorem rows_empty (m : A) {i k : Nat} (h : i < k) (h0 : m.m6 i = 0) {q : Nat} (hq : q < 8) : (allRows m k)[st m i * 8 + q]? = (emptyRow m i)[q]? := by
  have e : topRows m i = emptyRow m i := by rw [topRows, if_pos h0]
  rw [allRows_top m h (by rw [e]; exact hq), e]
theorem rows_chan (m : A) {i k j : Nat} (h : i < k) (hj : j < m.m6 i) {q : Nat} (hq : q < 8) : (allRows m k)[(st m i + j) * 8 + q]? = (chanRow m i j)[q]? := by
  have e : topRows m i = chanRows m i (m.m6 i) := by rw [topRows, if_neg (by omega)]
  have hl := chanRows_length m i (m.m6 i)
  rw [← chanRows_at m i hj hq, ← e, ← allRows_top m h (by rw [e]; omega)]
  congr 1; omega
theorem st_mono (m : A) {i k : Nat} (h : i ≤ k) : st m i ≤ st m k := by
  induction k with
  | zero => obtain rfl : i = 0 := by omega
            exact Nat.le_refl _
  | succ k ihk =>
    by_cases e : i = k + 1
    · subst e; exact Nat.le_refl _
    · exact Nat.le_trans (ihk (by omega)) (Nat.le_add_right _ _)

/-- 'copy(dst, src)': dst a row of n elements of 'size' cells, src n elements wherever they lie. -/
theorem run_copy_elems {P : Program} (w : World) (dT ty elem : TypeId) (size n c1 c2 : Nat) (T : TypeId) (g B : Nat) (a : Option Addr) (f f0 : Nat → Value)
    (hu : P.underlying dT = some (.slice elem)) (hs : (P.info? elem).map (·.size) = some size) (rg : Row w g T (n * size) f0) (rs : Elems w B a n size f) (h1 : ∀ i, (f i).oneCell' = true) :
    ∃ w', (Builtin.copy_ #[dT, dT] ty #[.slice (some ⟨g, 0, none⟩) n c1, .slice a n c2]).run P w = .ok (goInt n) w' ∧ Row w' g T (n * size) f ∧ Only [g] w w' := by
  obtain ⟨cur, hcur, hsz, _⟩ := rg
  have hf : (Builtin.firstCells size n (.slice a n c2)).run P w = .ok ((List.range (n * size)).map f).toArray w := by
    have hl : ((List.range (n * size)).map f).length = n * size := by simp
    cases a with
    | none =>
      have h0 : n = 0 := by
        by_cases h : 0 < n
        · obtain ⟨_, _, e, _⟩ := rs h; cases e
        · omega
      subst h0
      rw [run_firstCells_none]
      simp
    | some x =>
      refine run_firstCells_some (P := P) w size n x n c2 _ hl ?_
      intro j v hj
      have hjl : j < n * size := by have := (List.getElem?_eq_some_iff.1 hj).1; simpa using this
      have hn : 0 < n := by
        cases n with
        | zero => simp at hjl
        | succ n => omega
      obtain ⟨b, off, e, _, hc⟩ := rs hn
      cases e
      simp [hjl] at hj
      have e : (⟨b, off, none⟩ : Addr).add j = ⟨b, off + j, none⟩ := by unfold Addr.add; split <;> simp_all
      rw [e, hc j hjl, hj]
  have hst := run_storeCells_at P g 0 T ((List.range (n * size)).map f) 0 cur w hcur (by simpa using hsz) (by intro v hv; simp at hv; obtain ⟨a, _, rfl⟩ := hv; exact h1 a)
  refine ⟨w.setRow g (cur.toList.take (0 + 0) ++ ((List.range (n * size)).map f) ++ cur.toList.drop (0 + 0 + ((List.range (n * size)).map f).length)).toArray, ?_, ?_, ?_⟩
  · cases hq : P.info? elem with
    | none => simp [hq] at hs
    | some i =>
      have hi : i.size = size := by simpa [hq] using hs
      simp only [Builtin.copy_, Builtin.lenOf, sizeOf, typeInfo]
      simp [hf, hst, run_underlying hu, hq, hi]
  · refine ⟨_, setRow_heap w g cur _ T _ hcur, by simp, fun i hi => ?_⟩
    rw [List.getElem?_toArray, List.append_assoc, List.getElem?_append_right (by simp), List.getElem?_append_left (by simpa using hi)]
    simp [hi]
  · exact ⟨rfl, rfl, rfl, by simp, fun k _ hn => setRow_other w g k _ (by simpa using hn)⟩
theorem Laid.up {w w' : World} {B B' : Nat} {m : A} (h : Laid w B m) (O : Only [] w w') (hB : B ≤ B') : Laid w' B' m :=
  { h with h3 := h.h3.up O hB, h4 := h.h4.up O hB, h5 := h.h5.up O hB, h6 := h.h6.up O hB, h7 := h.h7.up O hB, h8 := h.h8.up O hB, g6 := fun i hi => (h.g6 i hi).up O hB, g7 := fun i hi => (h.g7 i hi).up O hB, g8 := fun i hi => (h.g8 i hi).up O hB }
theorem Row.elems {w : World} {b B : Nat} {T : TypeId} {n s : Nat} {f : Nat → Value} (r : Row w b T (n * s) f) (hb : b < B) : Elems w B (some ⟨b, 0, none⟩) n s f := fun _ => ⟨b, 0, rfl, hb, fun i hi => by rw [Nat.zero_add]; exact r.cell hi⟩

/-! ### the three copies -/
theorem Try.info9 : (Try.prog.info? 9).map (fun i => (i.zero, i.size, i.bytes)) = some (some (.string ByteArray.empty), 1, 16) := by kernel_rfl
theorem Try.info4 : (Try.prog.info? 4).map (fun i => (i.zero, i.size, i.bytes)) = some (some (.bool false), 1, 1) := by kernel_rfl
theorem Try.info38 : (Try.prog.info? 38).map (fun i => (i.zero, i.size, i.bytes)) = some (some (.agg #[.int .i64 0, .int .i64 0, .int .i64 0, .int .i64 0]), 4, 32) := by kernel_rfl
theorem Try.info3 : (Try.prog.info? 3).map (fun i => (i.zero, i.size, i.bytes)) = some (some (.int .i64 0), 1, 8) := by kernel_rfl
/-- The arguments with one of the three slices laid anew. -/
def A.w3 (m : A) (a : Option Addr) (c : Nat) : A := { m with a3 := a, c3 := c }
def A.w4 (m : A) (a : Option Addr) (c : Nat) : A := { m with a4 := a, c4 := c }
def A.w5 (m : A) (a : Option Addr) (c : Nat) : A := { m with a5 := a, c5 := c }
theorem Laid.with3 {w : World} {B : Nat} {m : A} (h : Laid w B m) (a : Option Addr) (c : Nat) (he : Elems w B a m.n3 1 (fun i => .string (m.name i))) : Laid w B (m.w3 a c) := { h with h3 := he }
theorem Laid.with4 {w : World} {B : Nat} {m : A} (h : Laid w B m) (a : Option Addr) (c : Nat) (he : Elems w B a m.n4 1 (fun i => .bool (m.pau i))) : Laid w B (m.w4 a c) := { h with h4 := he }
theorem Laid.with5 {w : World} {B : Nat} {m : A} (h : Laid w B m) (a : Option Addr) (c : Nat) (he : Elems w B a m.n5 4 (fun i => .int .i64 (m.num (i / 4) (i % 4)))) : Laid w B (m.w5 a c) := { h with h5 := he }
theorem sum6_same {m m' : A} (h : ∀ i, m'.m6 i = m.m6 i) (k : Nat) : sum6 m' k = sum6 m k := by
  induction k with
  | zero => rfl
  | succ k ih => show sum6 m' k + m'.m6 k = sum6 m k + m.m6 k; rw [ih, h]
theorem Small.w3 {m : A} (h : Small m) (a : Option Addr) (c : Nat) : Small (m.w3 a c) := ⟨h.s3, h.s4, h.s5, h.s6, h.s7, h.s8, Nat.le_trans (Nat.le_of_eq (sum6_same (m := m) (m' := m.w3 a c) (fun _ => rfl) m.n6)) h.su⟩
theorem Small.w4 {m : A} (h : Small m) (a : Option Addr) (c : Nat) : Small (m.w4 a c) := ⟨h.s3, h.s4, h.s5, h.s6, h.s7, h.s8, Nat.le_trans (Nat.le_of_eq (sum6_same (m := m) (m' := m.w4 a c) (fun _ => rfl) m.n6)) h.su⟩
theorem Small.w5 {m : A} (h : Small m) (a : Option Addr) (c : Nat) : Small (m.w5 a c) := ⟨h.s3, h.s4, h.s5, h.s6, h.s7, h.s8, Nat.le_trans (Nat.le_of_eq (sum6_same (m := m) (m' := m.w5 a c) (fun _ => rfl) m.n6)) h.su⟩
theorem Aligned.w3 {m : A} (h : Aligned m) (a : Option Addr) (c : Nat) : Aligned (m.w3 a c) := ⟨h.e4, h.e5, h.e6, h.e7, h.e8, h.i7, h.i8⟩
theorem Aligned.w4 {m : A} (h : Aligned m) (a : Option Addr) (c : Nat) : Aligned (m.w4 a c) := ⟨h.e4, h.e5, h.e6, h.e7, h.e8, h.i7, h.i8⟩
theorem Aligned.w5 {m : A} (h : Aligned m) (a : Option Addr) (c : Nat) : Aligned (m.w5 a c) := ⟨h.e4, h.e5, h.e6, h.e7, h.e8, h.i7, h.i8⟩
/-- A new block of n elements, and a copy into it. -/
theorem copied {w : World} {B n s c dT e : Nat} {T : TypeId} {a : Option Addr} {f : Nat → Value} (z : Value) (hu : Try.prog.underlying dT = some (.slice e)) (hs : (Try.prog.info? e).map (·.size) = some s) (rs : Elems w B a n s f) (h1 : ∀ i, (f i).oneCell' = true) (hB : B ≤ w.heap.size) :
    ∃ w', (Builtin.copy_ #[dT, dT] 3 #[.slice (some ⟨w.heap.size, 0, none⟩) n n, .slice a n c]).run Try.prog (w.alloc (.cells (Array.replicate (n * s) z) T)) = .ok (goInt n) w' ∧ Elems w' w'.heap.size (some ⟨w.heap.size, 0, none⟩) n s f ∧ Only [] w w' := by
  have r := Row.zeros w (n * s) z T
  obtain ⟨w', hrun, hr, ho⟩ := run_copy_elems (P := Try.prog) (w.alloc (.cells (Array.replicate (n * s) z) T)) dT 3 e s n n c T w.heap.size B a f _ hu hs r (rs.up (Only.alloc [] _ _) (Nat.le_refl _)) h1
  exact ⟨w', hrun, hr.elems hr.lt, (Only.alloc [] w _).trans' ho (fun i hi => by simp at hi; omega)⟩
end Go.Proofs.Qxb6602566a
