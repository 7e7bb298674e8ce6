/-
  cloneMasters.
-/
import Derived.Test.Qxb6602564aLyClone
import Derived.Test.Qxb6602564aFit33
import Derived.Deep.RegionHeld3
namespace Go.Proofs.Qxb6602564a
open Go.RowKit
set_option linter.unusedVariables false
/-- The same numbers, wherever they lie. -/
structure Like (m m' : M) : Prop where
  k : m'.k = m.k
  n0 : m'.n0 = m.n0
  n1 : m'.n1 = m.n1
  n2 : m'.n2 = m.n2
  n3 : m'.n3 = m.n3
  n4 : m'.n4 = m.n4
  n5 : m'.n5 = m.n5
  n6 : m'.n6 = m.n6
  n8 : m'.n8 = m.n8
  n9 : m'.n9 = m.n9
  n10 : m'.n10 = m.n10
  n11 : m'.n11 = m.n11
  f0 : m'.f0 = m.f0
  f1 : m'.f1 = m.f1
  f2 : m'.f2 = m.f2
  f3 : m'.f3 = m.f3
  f4 : m'.f4 = m.f4
  f5 : m'.f5 = m.f5
  f6 : m'.f6 = m.f6
  f9 : m'.f9 = m.f9
  f10 : m'.f10 = m.f10
  f11 : m'.f11 = m.f11
  un : m'.un = m.un
  uf : m'.uf = m.uf
/-- The slices of m lie at blocks from s on. -/
structure NewM (s : Nat) (m : M) : Prop where
  h0 : ∀ b o, m.a0 = some ⟨b, o, none⟩ → s ≤ b
  h1 : ∀ b o, m.a1 = some ⟨b, o, none⟩ → s ≤ b
  h2 : ∀ b o, m.a2 = some ⟨b, o, none⟩ → s ≤ b
  h3 : ∀ b o, m.a3 = some ⟨b, o, none⟩ → s ≤ b
  h4 : ∀ b o, m.a4 = some ⟨b, o, none⟩ → s ≤ b
  h5 : ∀ b o, m.a5 = some ⟨b, o, none⟩ → s ≤ b
  h6 : ∀ b o, m.a6 = some ⟨b, o, none⟩ → s ≤ b
  h8 : ∀ b o, m.a8 = some ⟨b, o, none⟩ → s ≤ b
  h9 : ∀ b o, m.a9 = some ⟨b, o, none⟩ → s ≤ b
  h10 : ∀ b o, m.a10 = some ⟨b, o, none⟩ → s ≤ b
  h11 : ∀ b o, m.a11 = some ⟨b, o, none⟩ → s ≤ b
  hu : ∀ i, i < m.n8 → ∀ b o, m.ua i = some ⟨b, o, none⟩ → s ≤ b
theorem Laid.up1 {w w' : World} {B B' s c : Nat} {m : M} (h : Laid w B m) (N : NewM s m) (O : Only [c] w w') (hc : c < s) (hB : B ≤ B') : Laid w' B' m := {
  h0 := h.h0.up1 O (fun b o e => by have := N.h0 b o e; omega) hB
  h1 := h.h1.up1 O (fun b o e => by have := N.h1 b o e; omega) hB
  h2 := h.h2.up1 O (fun b o e => by have := N.h2 b o e; omega) hB
  h4 := h.h4.up1 O (fun b o e => by have := N.h4 b o e; omega) hB
  h5 := h.h5.up1 O (fun b o e => by have := N.h5 b o e; omega) hB
  h6 := h.h6.up1 O (fun b o e => by have := N.h6 b o e; omega) hB
  h3 := h.h3.up1 O (fun b o e => by have := N.h3 b o e; omega) hB
  h9 := h.h9.up1 O (fun b o e => by have := N.h9 b o e; omega) hB
  h10 := h.h10.up1 O (fun b o e => by have := N.h10 b o e; omega) hB
  h11 := h.h11.up1 O (fun b o e => by have := N.h11 b o e; omega) hB
  h8 := fun hn => by
    obtain ⟨b, o, e, hb, hcell⟩ := h.h8 hn
    have := N.h8 b o e
    exact ⟨b, o, e, by omega, fun j hj => O.cell (by simp; omega) (hcell j hj)⟩
  hu := fun i hi => (h.hu i hi).up1 O (fun b o e => by have := N.hu i hi b o e; omega) hB
  q0 := h.q0
  q1 := h.q1
  q2 := h.q2
  q4 := h.q4
  q5 := h.q5
  q6 := h.q6
  qu := h.qu
  z0 := h.z0
  z1 := h.z1
  z2 := h.z2
  z3 := h.z3
  z4 := h.z4
  z5 := h.z5
  z6 := h.z6
  z8 := h.z8
  z9 := h.z9
  z10 := h.z10
  z11 := h.z11
  zu := h.zu }
theorem Like.sum {m m' : M} (h : Like m m') : ∀ j, sumU m' j = sumU m j
  | 0 => rfl
  | j + 1 => by simp only [sumU, h.sum j, h.un]
theorem Like.small {m m' : M} (h : Like m m') (s : Small m) : Small m' := by
  obtain ⟨s0, s1, s2, s3, s4, s5, s6, s8, s9, s10, s11, su⟩ := s
  exact ⟨by rw [h.n0]; exact s0, by rw [h.n1]; exact s1, by rw [h.n2]; exact s2, by rw [h.n3]; exact s3, by rw [h.n4]; exact s4, by rw [h.n5]; exact s5, by rw [h.n6]; exact s6, by rw [h.n8]; exact s8, by rw [h.n9]; exact s9, by rw [h.n10]; exact s10, by rw [h.n11]; exact s11, by rw [h.n8, h.sum]; exact su⟩
theorem Like.wf {m m' : M} (h : Like m m') (s : WF m) : WF m' := by
  obtain ⟨e2, e3, e5, e8, ek, un, ur, uh, ho, re, uu⟩ := s
  exact ⟨by rw [h.n2, h.n1]; exact e2, by rw [h.n3, h.n1]; exact e3, by rw [h.n5, h.n1]; exact e5, by rw [h.n8, h.n9]; exact e8, by rw [h.n0, h.n6, h.k]; exact ek, by rw [h.n1, h.f1, h.n9]; exact un, by rw [h.n1, h.f2, h.n10, h.n11]; exact ur, by rw [h.n1, h.f5, h.n4]; exact uh, by rw [h.n4, h.f4, h.n0]; exact ho, by rw [h.n6, h.f6, h.n1]; exact re, by rw [h.n9, h.un, h.uf, h.n1]; exact uu⟩
def MastP (m : M) (w : World) (e : Ending) (w' : World) : Prop := ∃ m', e = .returned (agg m') ∧ Like m m' ∧ (m'.n4 ≤ m'.c4 ∧ m'.n6 ≤ m'.c6) ∧ NewM w.heap.size m' ∧ Laid w' w'.heap.size m' ∧ Only [] w w'
theorem Try.siz37 : (Try.prog.info? 37).map (·.size) = some 12 := by kernel_rfl
/-- The cells o .. o + n - 1 of block b, stored one after the other. -/
def setN (w : World) (b o : Nat) (x : Nat → Value) : Nat → World
  | 0 => w
  | n + 1 => (setN w b o x n).setCell ⟨b, o + n, none⟩ (x n)
theorem Row.setN {w : World} {b : Nat} {T : TypeId} {N : Nat} {g : Nat → Value} (h : Row w b T N g) (o : Nat) (x : Nat → Value) (n : Nat) : Row (setN w b o x n) b T N (fun q => if o ≤ q ∧ q < o + n then x (q - o) else g q) := by
  induction n with
  | zero => exact h.ext (fun i _ => by rw [if_neg (by omega)])
  | succ n ih =>
    refine (ih.set (o + n) (x n)).ext (fun i _ => ?_)
    by_cases e : i = o + n
    · subst e; rw [upd_at, if_pos ⟨by omega, by omega⟩]; congr 1; omega
    · rw [upd_ne _ _ e]
      by_cases e2 : o ≤ i ∧ i < o + n
      · rw [if_pos e2, if_pos (by omega)]
      · rw [if_neg e2, if_neg (by omega)]
theorem Only.setN (w : World) (b o : Nat) (x : Nat → Value) (n : Nat) : Only [b] w (setN w b o x n) := by
  induction n with
  | zero => exact Only.refl _ _
  | succ n ih => exact ih.set b _ _ (.inl (by simp))
theorem Row.of_block {w : World} {b : Nat} {T : TypeId} {xs : Array Value} (h : w.heap[b]? = some (.cells xs T (0, 0))) : Row w b T xs.size (fun i => xs[i]!) := ⟨xs, h, Nat.le_refl _, fun i hi => by simp [hi]⟩
def acell (m : M) : Nat → Value

  | 0 => .slice m.a0 m.n0 m.c0
  | 1 => .slice m.a1 m.n1 m.c1
  | 2 => .slice m.a2 m.n2 m.c2
  | 3 => .slice m.a3 m.n3 m.c3
  | 4 => .slice m.a4 m.n4 m.c4
  | 5 => .slice m.a5 m.n5 m.c5
  | 6 => .slice m.a6 m.n6 m.c6
  | 7 => .int .i64 m.k
  | 8 => .slice m.a8 m.n8 m.c8
  | 9 => .slice m.a9 m.n9 m.c9
  | 10 => .slice m.a10 m.n10 m.c10
  | _ => .slice m.a11 m.n11 m.c11
theorem sized_setN {w : World} {b : Nat} {T : TypeId} {xs : Array Value} (h : w.heap[b]? = some (.cells xs T (0, 0))) (o : Nat) (x : Nat → Value) (n : Nat) : ∃ ys, (setN w b o x n).heap[b]? = some (.cells ys T (0, 0)) ∧ ys.size = xs.size := by
  induction n with
  | zero => exact ⟨xs, h, rfl⟩
  | succ n ih =>
    obtain ⟨ys, h1, h2⟩ := ih
    exact ⟨_, heap_setCell_same _ b (o + n) ys T (x n) h1, by simpa using h2⟩
theorem block_of_row {w : World} {b : Nat} {T : TypeId} {n : Nat} {f : Nat → Value} (h : ∃ ys, w.heap[b]? = some (.cells ys T (0, 0)) ∧ ys.size = n) (r : Row w b T n f) (xs : Array Value) (hx : xs.size = n) (he : ∀ i, i < n → xs[i]? = some (f i)) : w.heap[b]? = some (.cells xs T (0, 0)) := by
  obtain ⟨ys, h1, h2⟩ := h
  obtain ⟨zs, h3, _, h4⟩ := r
  rw [h1] at h3
  simp at h3
  subst h3
  rw [h1]
  have e : ys = xs := by
    apply Array.ext_getElem?
    intro i
    by_cases hi : i < n
    · rw [h4 i hi, he i hi]
    · rw [Array.getElem?_eq_none (by omega), Array.getElem?_eq_none (by omega)]
  rw [e]
theorem last12 (m : M) {w : World} {s : Nat} (r0 : w.heap[s]? = some (.cells #[.slice none 0 0, .slice none 0 0, .slice none 0 0, .slice none 0 0, .slice none 0 0, .slice none 0 0, .slice none 0 0, .int .i64 0, .slice none 0 0, .slice none 0 0, .slice none 0 0, .slice none 0 0] 37 (0, 0))) : (setN w s 0 (acell m) 12).heap[s]? = some (.cells #[.slice m.a0 m.n0 m.c0, .slice m.a1 m.n1 m.c1, .slice m.a2 m.n2 m.c2, .slice m.a3 m.n3 m.c3, .slice m.a4 m.n4 m.c4, .slice m.a5 m.n5 m.c5, .slice m.a6 m.n6 m.c6, .int .i64 m.k, .slice m.a8 m.n8 m.c8, .slice m.a9 m.n9 m.c9, .slice m.a10 m.n10 m.c10, .slice m.a11 m.n11 m.c11] 37 (0, 0)) := by
  refine block_of_row (n := 12) (f := acell m) ?_ ?_ _ rfl (fun i hi => ?_)
  · obtain ⟨ys, h1, h2⟩ := sized_setN r0 0 (acell m) 12
    exact ⟨ys, h1, h2⟩
  · exact ((Row.of_block r0).setN 0 (acell m) 12).ext (fun i hi => by rw [if_pos ⟨by omega, by simpa using hi⟩]; rfl)
  · obtain rfl | rfl | rfl | rfl | rfl | rfl | rfl | rfl | rfl | rfl | rfl | rfl : i = 0 ∨ i = 1 ∨ i = 2 ∨ i = 3 ∨ i = 4 ∨ i = 5 ∨ i = 6 ∨ i = 7 ∨ i = 8 ∨ i = 9 ∨ i = 10 ∨ i = 11 := by omega
    all_goals rfl
set_option maxRecDepth 100000 in
set_option maxHeartbeats 8000000 in
theorem cloneMasters34 (m : M) (B : Nat) (w : World) (hB : B ≤ w.heap.size) (hL : Laid w B m) (hS : Small m) :
    Calls Try.prog 34 #[.agg #[.slice m.a0 m.n0 m.c0, .slice m.a1 m.n1 m.c1, .slice m.a2 m.n2 m.c2, .slice m.a3 m.n3 m.c3, .slice m.a4 m.n4 m.c4, .slice m.a5 m.n5 m.c5, .slice m.a6 m.n6 m.c6, .int .i64 m.k, .slice m.a8 m.n8 m.c8, .slice m.a9 m.n9 m.c9, .slice m.a10 m.n10 m.c10, .slice m.a11 m.n11 m.c11]] w fun e w' => MastP m w e w' := by
  obtain ⟨s0, s1, s2, s3, s4, s5, s6, s8, s9, s10, s11, su⟩ := hS
  have hx : ∀ i, i < m.n8 → m.un i ≤ 262144 := fun i hi => by
    have : ∀ k, k ≤ m.n8 → ∀ i, i < k → m.un i ≤ sumU m k := by
      intro k hk
      induction k with
      | zero => intro i hi; omega
      | succ k ih =>
        intro i hi
        show m.un i ≤ sumU m k + m.un k
        by_cases e : i = k
        · subst e; omega
        · have := ih (by omega) i (by omega); omega
    have := this m.n8 (Nat.le_refl _) i hi
    omega
  obtain ⟨wb, hwb⟩ : ∃ wb, wb = (w.alloc (.cells #[.slice m.a0 m.n0 m.c0, .slice m.a1 m.n1 m.c1, .slice m.a2 m.n2 m.c2, .slice m.a3 m.n3 m.c3, .slice m.a4 m.n4 m.c4, .slice m.a5 m.n5 m.c5, .slice m.a6 m.n6 m.c6, .int .i64 m.k, .slice m.a8 m.n8 m.c8, .slice m.a9 m.n9 m.c9, .slice m.a10 m.n10 m.c10, .slice m.a11 m.n11 m.c11] 37)).alloc (.cells #[.slice none 0 0, .slice none 0 0, .slice none 0 0, .slice none 0 0, .slice none 0 0, .slice none 0 0, .slice none 0 0, .int .i64 0, .slice none 0 0, .slice none 0 0, .slice none 0 0, .slice none 0 0] 37) := ⟨_, rfl⟩
  have Ob : Only [] w wb := by rw [hwb]; exact (Only.alloc _ _ _).trans (Only.alloc _ _ _)
  have zb : wb.heap.size = w.heap.size + 1 + 1 := by rw [hwb]; simp
  have rR : wb.heap[w.heap.size + 1]? = some (.cells #[.slice none 0 0, .slice none 0 0, .slice none 0 0, .slice none 0 0, .slice none 0 0, .slice none 0 0, .slice none 0 0, .int .i64 0, .slice none 0 0, .slice none 0 0, .slice none 0 0, .slice none 0 0] 37 (0, 0)) := by
    rw [hwb]
    have h := heap_alloc_new (w.alloc (.cells #[.slice m.a0 m.n0 m.c0, .slice m.a1 m.n1 m.c1, .slice m.a2 m.n2 m.c2, .slice m.a3 m.n3 m.c3, .slice m.a4 m.n4 m.c4, .slice m.a5 m.n5 m.c5, .slice m.a6 m.n6 m.c6, .int .i64 m.k, .slice m.a8 m.n8 m.c8, .slice m.a9 m.n9 m.c9, .slice m.a10 m.n10 m.c10, .slice m.a11 m.n11 m.c11] 37)) (.cells #[.slice none 0 0, .slice none 0 0, .slice none 0 0, .slice none 0 0, .slice none 0 0, .slice none 0 0, .slice none 0 0, .int .i64 0, .slice none 0 0, .slice none 0 0, .slice none 0 0, .slice none 0 0] 37)
    rw [World.size_alloc] at h
    exact h
  have rX : Row wb w.heap.size 37 12 (acell m) := by
    rw [hwb]
    refine ((Row.made w #[.slice m.a0 m.n0 m.c0, .slice m.a1 m.n1 m.c1, .slice m.a2 m.n2 m.c2, .slice m.a3 m.n3 m.c3, .slice m.a4 m.n4 m.c4, .slice m.a5 m.n5 m.c5, .slice m.a6 m.n6 m.c6, .int .i64 m.k, .slice m.a8 m.n8 m.c8, .slice m.a9 m.n9 m.c9, .slice m.a10 m.n10 m.c10, .slice m.a11 m.n11 m.c11] 37).alloc _).ext (fun i hi => ?_)
    have hi : i < 12 := hi
    obtain rfl | rfl | rfl | rfl | rfl | rfl | rfl | rfl | rfl | rfl | rfl | rfl : i = 0 ∨ i = 1 ∨ i = 2 ∨ i = 3 ∨ i = 4 ∨ i = 5 ∨ i = 6 ∨ i = 7 ∨ i = 8 ∨ i = 9 ∨ i = 10 ∨ i = 11 := by omega
    all_goals rfl
  have rRow : Row wb (w.heap.size + 1) 37 12 _ := Row.of_block rR
  have k0 : wb.cell? ⟨w.heap.size + 1, 0, none⟩ = some (.slice none 0 0) := rRow.cell (i := 0) (by omega)
  have k1 : wb.cell? ⟨w.heap.size + 1, 1, none⟩ = some (.slice none 0 0) := rRow.cell (i := 1) (by omega)
  have k2 : wb.cell? ⟨w.heap.size + 1, 2, none⟩ = some (.slice none 0 0) := rRow.cell (i := 2) (by omega)
  have k3 : wb.cell? ⟨w.heap.size + 1, 3, none⟩ = some (.slice none 0 0) := rRow.cell (i := 3) (by omega)
  have k4 : wb.cell? ⟨w.heap.size + 1, 4, none⟩ = some (.slice none 0 0) := rRow.cell (i := 4) (by omega)
  have k5 : wb.cell? ⟨w.heap.size + 1, 5, none⟩ = some (.slice none 0 0) := rRow.cell (i := 5) (by omega)
  have k6 : wb.cell? ⟨w.heap.size + 1, 6, none⟩ = some (.slice none 0 0) := rRow.cell (i := 6) (by omega)
  have k7 : wb.cell? ⟨w.heap.size + 1, 7, none⟩ = some (.int .i64 0) := rRow.cell (i := 7) (by omega)
  have k8 : wb.cell? ⟨w.heap.size + 1, 8, none⟩ = some (.slice none 0 0) := rRow.cell (i := 8) (by omega)
  have k9 : wb.cell? ⟨w.heap.size + 1, 9, none⟩ = some (.slice none 0 0) := rRow.cell (i := 9) (by omega)
  have k10 : wb.cell? ⟨w.heap.size + 1, 10, none⟩ = some (.slice none 0 0) := rRow.cell (i := 10) (by omega)
  have k11 : wb.cell? ⟨w.heap.size + 1, 11, none⟩ = some (.slice none 0 0) := rRow.cell (i := 11) (by omega)
  have HW : Hid (wb = _) := hwb
  clear hwb
  have x0 : ∀ w', Only [w.heap.size + 1] wb w' → w'.cell? ⟨w.heap.size, 0, none⟩ = some (.slice m.a0 m.n0 m.c0) := fun w' h => h.cell (by simp) (rX.cell (i := 0) (by omega))
  have x1 : ∀ w', Only [w.heap.size + 1] wb w' → w'.cell? ⟨w.heap.size, 1, none⟩ = some (.slice m.a1 m.n1 m.c1) := fun w' h => h.cell (by simp) (rX.cell (i := 1) (by omega))
  have x2 : ∀ w', Only [w.heap.size + 1] wb w' → w'.cell? ⟨w.heap.size, 2, none⟩ = some (.slice m.a2 m.n2 m.c2) := fun w' h => h.cell (by simp) (rX.cell (i := 2) (by omega))
  have x3 : ∀ w', Only [w.heap.size + 1] wb w' → w'.cell? ⟨w.heap.size, 3, none⟩ = some (.slice m.a3 m.n3 m.c3) := fun w' h => h.cell (by simp) (rX.cell (i := 3) (by omega))
  have x4 : ∀ w', Only [w.heap.size + 1] wb w' → w'.cell? ⟨w.heap.size, 4, none⟩ = some (.slice m.a4 m.n4 m.c4) := fun w' h => h.cell (by simp) (rX.cell (i := 4) (by omega))
  have x5 : ∀ w', Only [w.heap.size + 1] wb w' → w'.cell? ⟨w.heap.size, 5, none⟩ = some (.slice m.a5 m.n5 m.c5) := fun w' h => h.cell (by simp) (rX.cell (i := 5) (by omega))
  have x6 : ∀ w', Only [w.heap.size + 1] wb w' → w'.cell? ⟨w.heap.size, 6, none⟩ = some (.slice m.a6 m.n6 m.c6) := fun w' h => h.cell (by simp) (rX.cell (i := 6) (by omega))
  have x7 : ∀ w', Only [w.heap.size + 1] wb w' → w'.cell? ⟨w.heap.size, 7, none⟩ = some (.int .i64 m.k) := fun w' h => h.cell (by simp) (rX.cell (i := 7) (by omega))
  have x8 : ∀ w', Only [w.heap.size + 1] wb w' → w'.cell? ⟨w.heap.size, 8, none⟩ = some (.slice m.a8 m.n8 m.c8) := fun w' h => h.cell (by simp) (rX.cell (i := 8) (by omega))
  have x9 : ∀ w', Only [w.heap.size + 1] wb w' → w'.cell? ⟨w.heap.size, 9, none⟩ = some (.slice m.a9 m.n9 m.c9) := fun w' h => h.cell (by simp) (rX.cell (i := 9) (by omega))
  have x10 : ∀ w', Only [w.heap.size + 1] wb w' → w'.cell? ⟨w.heap.size, 10, none⟩ = some (.slice m.a10 m.n10 m.c10) := fun w' h => h.cell (by simp) (rX.cell (i := 10) (by omega))
  have x11 : ∀ w', Only [w.heap.size + 1] wb w' → w'.cell? ⟨w.heap.size, 11, none⟩ = some (.slice m.a11 m.n11 m.c11) := fun w' h => h.cell (by simp) (rX.cell (i := 11) (by omega))
  have y0 : ∀ w', Only [w.heap.size + 1] wb w' → Has w' B .i32 m.a0 m.n0 m.f0 := fun w' h hn => by obtain ⟨b, o, e, hb, hc⟩ := hL.h0 hn; exact ⟨b, o, e, hb, fun j hj => h.cell (by simp; omega) (Ob.cell (by simp) (hc j hj))⟩
  have y1 : ∀ w', Only [w.heap.size + 1] wb w' → Has w' B .i32 m.a1 m.n1 m.f1 := fun w' h hn => by obtain ⟨b, o, e, hb, hc⟩ := hL.h1 hn; exact ⟨b, o, e, hb, fun j hj => h.cell (by simp; omega) (Ob.cell (by simp) (hc j hj))⟩
  have y2 : ∀ w', Only [w.heap.size + 1] wb w' → Has w' B .i32 m.a2 m.n2 m.f2 := fun w' h hn => by obtain ⟨b, o, e, hb, hc⟩ := hL.h2 hn; exact ⟨b, o, e, hb, fun j hj => h.cell (by simp; omega) (Ob.cell (by simp) (hc j hj))⟩
  have y4 : ∀ w', Only [w.heap.size + 1] wb w' → Has w' B .i32 m.a4 m.n4 m.f4 := fun w' h hn => by obtain ⟨b, o, e, hb, hc⟩ := hL.h4 hn; exact ⟨b, o, e, hb, fun j hj => h.cell (by simp; omega) (Ob.cell (by simp) (hc j hj))⟩
  have y5 : ∀ w', Only [w.heap.size + 1] wb w' → Has w' B .i32 m.a5 m.n5 m.f5 := fun w' h hn => by obtain ⟨b, o, e, hb, hc⟩ := hL.h5 hn; exact ⟨b, o, e, hb, fun j hj => h.cell (by simp; omega) (Ob.cell (by simp) (hc j hj))⟩
  have y6 : ∀ w', Only [w.heap.size + 1] wb w' → Has w' B .i32 m.a6 m.n6 m.f6 := fun w' h hn => by obtain ⟨b, o, e, hb, hc⟩ := hL.h6 hn; exact ⟨b, o, e, hb, fun j hj => h.cell (by simp; omega) (Ob.cell (by simp) (hc j hj))⟩
  have y3 : ∀ w', Only [w.heap.size + 1] wb w' → Has w' B .i64 m.a3 m.n3 m.f3 := fun w' h hn => by obtain ⟨b, o, e, hb, hc⟩ := hL.h3 hn; exact ⟨b, o, e, hb, fun j hj => h.cell (by simp; omega) (Ob.cell (by simp) (hc j hj))⟩
  have y9 : ∀ w', Only [w.heap.size + 1] wb w' → Has w' B .i64 m.a9 m.n9 m.f9 := fun w' h hn => by obtain ⟨b, o, e, hb, hc⟩ := hL.h9 hn; exact ⟨b, o, e, hb, fun j hj => h.cell (by simp; omega) (Ob.cell (by simp) (hc j hj))⟩
  have y10 : ∀ w', Only [w.heap.size + 1] wb w' → Has w' B .i64 m.a10 m.n10 m.f10 := fun w' h hn => by obtain ⟨b, o, e, hb, hc⟩ := hL.h10 hn; exact ⟨b, o, e, hb, fun j hj => h.cell (by simp; omega) (Ob.cell (by simp) (hc j hj))⟩
  have y11 : ∀ w', Only [w.heap.size + 1] wb w' → Has w' B .i64 m.a11 m.n11 m.f11 := fun w' h hn => by obtain ⟨b, o, e, hb, hc⟩ := hL.h11 hn; exact ⟨b, o, e, hb, fun j hj => h.cell (by simp; omega) (Ob.cell (by simp) (hc j hj))⟩
  have y8 : ∀ w', Only [w.heap.size + 1] wb w' → HasU w' B m := fun w' h hn => by obtain ⟨b, o, e, hb, hc⟩ := hL.h8 hn; exact ⟨b, o, e, hb, fun j hj => h.cell (by simp; omega) (Ob.cell (by simp) (hc j hj))⟩
  have yu : ∀ w', Only [w.heap.size + 1] wb w' → ∀ i, i < m.n8 → Has w' B .i32 (m.ua i) (m.un i) (m.uf i) := fun w' h i hi hn => by obtain ⟨b, o, e, hb, hc⟩ := hL.hu i hi hn; exact ⟨b, o, e, hb, fun j hj => h.cell (by simp; omega) (Ob.cell (by simp) (hc j hj))⟩
  have S0 : Only [w.heap.size + 1] wb wb.drew := Only.drew _ _
  go_enter Try.func34, Try.ntmps34
  go_upto_region 1 with fail
  rw [← HW.out]
  go_region_held3 (fun w' => Only [w.heap.size + 1] wb w') (first | with_reducible exact S0 | with_reducible assumption | ((repeat with_reducible refine Only.set ?_ _ _ _ (.inl (List.mem_singleton.2 rfl))); with_reducible assumption))
    (first
      | (go_at_call_of 49 (m.a0); refine (clone49 m.a0 m.n0 m.c0 m.f0 B _ (y0 _ (by assumption)) s0).mono ?_; rintro e v0 ⟨b0, d0, rfl, E0, F0, P0⟩; have T0 : Only [w.heap.size + 1] wb v0 := Only.trans (by assumption) (Only.mono P0 (by simp)))
      | (go_at_call_of 49 (m.a1); refine (clone49 m.a1 m.n1 m.c1 m.f1 B _ (y1 _ (by assumption)) s1).mono ?_; rintro e v1 ⟨b1, d1, rfl, E1, F1, P1⟩; have T1 : Only [w.heap.size + 1] wb v1 := Only.trans (by assumption) (Only.mono P1 (by simp)))
      | (go_at_call_of 49 (m.a2); refine (clone49 m.a2 m.n2 m.c2 m.f2 B _ (y2 _ (by assumption)) s2).mono ?_; rintro e v2 ⟨b2, d2, rfl, E2, F2, P2⟩; have T2 : Only [w.heap.size + 1] wb v2 := Only.trans (by assumption) (Only.mono P2 (by simp)))
      | (go_at_call_of 23 (m.a3); refine (cloneI23 m.a3 m.n3 m.c3 m.f3 B _ (y3 _ (by assumption)) s3).mono ?_; rintro e v3 ⟨b3, d3, rfl, E3, F3, P3⟩; have T3 : Only [w.heap.size + 1] wb v3 := Only.trans (by assumption) (Only.mono P3 (by simp)))
      | (go_at_call_of 49 (m.a4); refine (clone49 m.a4 m.n4 m.c4 m.f4 B _ (y4 _ (by assumption)) s4).mono ?_; rintro e v4 ⟨b4, d4, rfl, E4, F4, P4⟩; have T4 : Only [w.heap.size + 1] wb v4 := Only.trans (by assumption) (Only.mono P4 (by simp)))
      | (go_at_call_of 49 (m.a5); refine (clone49 m.a5 m.n5 m.c5 m.f5 B _ (y5 _ (by assumption)) s5).mono ?_; rintro e v5 ⟨b5, d5, rfl, E5, F5, P5⟩; have T5 : Only [w.heap.size + 1] wb v5 := Only.trans (by assumption) (Only.mono P5 (by simp)))
      | (go_at_call_of 49 (m.a6); refine (clone49 m.a6 m.n6 m.c6 m.f6 B _ (y6 _ (by assumption)) s6).mono ?_; rintro e v6 ⟨b6, d6, rfl, E6, F6, P6⟩; have T6 : Only [w.heap.size + 1] wb v6 := Only.trans (by assumption) (Only.mono P6 (by simp)))
      | (go_at_call_of 50 (m.a8); refine (clone50 m B _ (y8 _ (by assumption)) (yu _ (by assumption)) s8 hx).mono ?_; rintro e v8 ⟨b8, d8, ub, ud, rfl, E8, G8, F8, P8⟩; have T8 : Only [w.heap.size + 1] wb v8 := Only.trans (by assumption) (Only.mono P8 (by simp)))
      | (go_at_call_of 23 (m.a9); refine (cloneI23 m.a9 m.n9 m.c9 m.f9 B _ (y9 _ (by assumption)) s9).mono ?_; rintro e v9 ⟨b9, d9, rfl, E9, F9, P9⟩; have T9 : Only [w.heap.size + 1] wb v9 := Only.trans (by assumption) (Only.mono P9 (by simp)))
      | (go_at_call_of 23 (m.a10); refine (cloneI23 m.a10 m.n10 m.c10 m.f10 B _ (y10 _ (by assumption)) s10).mono ?_; rintro e v10 ⟨b10, d10, rfl, E10, F10, P10⟩; have T10 : Only [w.heap.size + 1] wb v10 := Only.trans (by assumption) (Only.mono P10 (by simp)))
      | (go_at_call_of 23 (m.a11); refine (cloneI23 m.a11 m.n11 m.c11 m.f11 B _ (y11 _ (by assumption)) s11).mono ?_; rintro e v11 ⟨b11, d11, rfl, E11, F11, P11⟩; have T11 : Only [w.heap.size + 1] wb v11 := Only.trans (by assumption) (Only.mono P11 (by simp)); have QQ : Only [] wb v11 := (Only.trans (Only.trans (Only.trans (Only.trans (Only.trans (Only.trans (Only.trans (Only.trans (Only.trans (Only.trans (Only.trans (Only.drew [] wb) P0) P1) P2) P3) P4) P5) P6) P8) P9) P10) P11); have RZ : Row v11 (w.heap.size + 1) 37 12 _ := Row.keep rRow QQ (by simp); have q0 : v11.cell? ⟨w.heap.size + 1, 0, none⟩ = some (.slice none 0 0) := QQ.cell (by simp) k0; have q1 : v11.cell? ⟨w.heap.size + 1, 1, none⟩ = some (.slice none 0 0) := QQ.cell (by simp) k1; have q2 : v11.cell? ⟨w.heap.size + 1, 2, none⟩ = some (.slice none 0 0) := QQ.cell (by simp) k2; have q3 : v11.cell? ⟨w.heap.size + 1, 3, none⟩ = some (.slice none 0 0) := QQ.cell (by simp) k3; have q4 : v11.cell? ⟨w.heap.size + 1, 4, none⟩ = some (.slice none 0 0) := QQ.cell (by simp) k4; have q5 : v11.cell? ⟨w.heap.size + 1, 5, none⟩ = some (.slice none 0 0) := QQ.cell (by simp) k5; have q6 : v11.cell? ⟨w.heap.size + 1, 6, none⟩ = some (.slice none 0 0) := QQ.cell (by simp) k6; have q7 : v11.cell? ⟨w.heap.size + 1, 7, none⟩ = some (.int .i64 0) := QQ.cell (by simp) k7; have q8 : v11.cell? ⟨w.heap.size + 1, 8, none⟩ = some (.slice none 0 0) := QQ.cell (by simp) k8; have q9 : v11.cell? ⟨w.heap.size + 1, 9, none⟩ = some (.slice none 0 0) := QQ.cell (by simp) k9; have q10 : v11.cell? ⟨w.heap.size + 1, 10, none⟩ = some (.slice none 0 0) := QQ.cell (by simp) k10; have q11 : v11.cell? ⟨w.heap.size + 1, 11, none⟩ = some (.slice none 0 0) := QQ.cell (by simp) k11; have fz := fun i => RZ.frozen i))
  have C11 := Only.refl [] v11
  have C10 := P11.trans C11
  have C9 := P10.trans C10
  have C8 := P9.trans C9
  have C6 := P8.trans C8
  have C5 := P6.trans C6
  have C4 := P5.trans C5
  have C3 := P4.trans C4
  have C2 := P3.trans C3
  have C1 := P2.trans C2
  have C0 := P1.trans C1
  have e0 := T0.size
  have e1 := T1.size
  have e2 := T2.size
  have e3 := T3.size
  have e4 := T4.size
  have e5 := T5.size
  have e6 := T6.size
  have e8 := T8.size
  have e9 := T9.size
  have e10 := T10.size
  have e11 := T11.size
  have rv : v11.heap[w.heap.size + 1]? = _ := (QQ.block _ (lt_of_block rR) (by simp)).trans rR
  have O5 := Only.setN v11 (w.heap.size + 1) 0 (acell { m with a0 := b0, c0 := d0, a1 := b1, c1 := d1, a2 := b2, c2 := d2, a3 := b3, c3 := d3, a4 := b4, c4 := d4, a5 := b5, c5 := d5, a6 := b6, c6 := d6, a8 := b8, c8 := d8, a9 := b9, c9 := d9, a10 := b10, c10 := d10, a11 := b11, c11 := d11, ua := ub, uc := ud }) 12
  have HL := last12 { m with a0 := b0, c0 := d0, a1 := b1, c1 := d1, a2 := b2, c2 := d2, a3 := b3, c3 := d3, a4 := b4, c4 := d4, a5 := b5, c5 := d5, a6 := b6, c6 := d6, a8 := b8, c8 := d8, a9 := b9, c9 := d9, a10 := b10, c10 := d10, a11 := b11, c11 := d11, ua := ub, uc := ud } rv
  have FIN : Hid (MastP m w (.returned (agg { m with a0 := b0, c0 := d0, a1 := b1, c1 := d1, a2 := b2, c2 := d2, a3 := b3, c3 := d3, a4 := b4, c4 := d4, a5 := b5, c5 := d5, a6 := b6, c6 := d6, a8 := b8, c8 := d8, a9 := b9, c9 := d9, a10 := b10, c10 := d10, a11 := b11, c11 := d11, ua := ub, uc := ud })) (setN v11 (w.heap.size + 1) 0 (acell { m with a0 := b0, c0 := d0, a1 := b1, c1 := d1, a2 := b2, c2 := d2, a3 := b3, c3 := d3, a4 := b4, c4 := d4, a5 := b5, c5 := d5, a6 := b6, c6 := d6, a8 := b8, c8 := d8, a9 := b9, c9 := d9, a10 := b10, c10 := d10, a11 := b11, c11 := d11, ua := ub, uc := ud }) 12)) := by
    refine ⟨_, rfl, ⟨rfl, rfl, rfl, rfl, rfl, rfl, rfl, rfl, rfl, rfl, rfl, rfl, rfl, rfl, rfl, rfl, rfl, rfl, rfl, rfl, rfl, rfl, rfl, rfl⟩, ⟨F4.2, F6.2⟩, ⟨fun b o e => by have := F0.1 b o e; (try simp at this); omega, fun b o e => by have := F1.1 b o e; (try simp at this); omega, fun b o e => by have := F2.1 b o e; (try simp at this); omega, fun b o e => by have := F3.1 b o e; (try simp at this); omega, fun b o e => by have := F4.1 b o e; (try simp at this); omega, fun b o e => by have := F5.1 b o e; (try simp at this); omega, fun b o e => by have := F6.1 b o e; (try simp at this); omega, fun b o e => by have := F8.1 b o e; (try simp at this); omega, fun b o e => by have := F9.1 b o e; (try simp at this); omega, fun b o e => by have := F10.1 b o e; (try simp at this); omega, fun b o e => by have := F11.1 b o e; (try simp at this); omega, fun i hi b o e => by have := F8.2 i hi b o e; (try simp at this); omega⟩, {
      h0 := (E0.up C0 C0.size).up1 O5 (fun b o e => by have := F0.1 b o e; (try simp at this); omega) O5.size
      h1 := (E1.up C1 C1.size).up1 O5 (fun b o e => by have := F1.1 b o e; (try simp at this); omega) O5.size
      h2 := (E2.up C2 C2.size).up1 O5 (fun b o e => by have := F2.1 b o e; (try simp at this); omega) O5.size
      h4 := (E4.up C4 C4.size).up1 O5 (fun b o e => by have := F4.1 b o e; (try simp at this); omega) O5.size
      h5 := (E5.up C5 C5.size).up1 O5 (fun b o e => by have := F5.1 b o e; (try simp at this); omega) O5.size
      h6 := (E6.up C6 C6.size).up1 O5 (fun b o e => by have := F6.1 b o e; (try simp at this); omega) O5.size
      h3 := (E3.up C3 C3.size).up1 O5 (fun b o e => by have := F3.1 b o e; (try simp at this); omega) O5.size
      h9 := (E9.up C9 C9.size).up1 O5 (fun b o e => by have := F9.1 b o e; (try simp at this); omega) O5.size
      h10 := (E10.up C10 C10.size).up1 O5 (fun b o e => by have := F10.1 b o e; (try simp at this); omega) O5.size
      h11 := (E11.up C11 C11.size).up1 O5 (fun b o e => by have := F11.1 b o e; (try simp at this); omega) O5.size
      h8 := fun hn => by
        obtain ⟨b, o, e, hb, hc⟩ := E8 hn
        have := F8.1 b o e
        exact ⟨b, o, e, by have := C8.size; have := O5.size; omega, fun j hj => O5.cell (by simp; omega) (C8.cell (by simp) (hc j hj))⟩
      hu := fun i hi => ((G8 i hi).up C8 C8.size).up1 O5 (fun b o e => by have := F8.2 i hi b o e; omega) O5.size
      q0 := hL.q0
      q1 := hL.q1
      q2 := hL.q2
      q4 := hL.q4
      q5 := hL.q5
      q6 := hL.q6
      qu := hL.qu
      z0 := hL.z0
      z1 := hL.z1
      z2 := hL.z2
      z3 := hL.z3
      z4 := hL.z4
      z5 := hL.z5
      z6 := hL.z6
      z8 := hL.z8
      z9 := hL.z9
      z10 := hL.z10
      z11 := hL.z11
      zu := hL.zu }, (Ob.trans QQ).trans' O5 (fun i hi => by simp at hi; exact .inr (by omega))⟩
  clear O5 E0 F0 P0 T0 C0 e0 E1 F1 P1 T1 C1 e1 E2 F2 P2 T2 C2 e2 E3 F3 P3 T3 C3 e3 E4 F4 P4 T4 C4 e4 E5 F5 P5 T5 C5 e5 E6 F6 P6 T6 C6 e6 E8 F8 P8 T8 C8 e8 E9 F9 P9 T9 C9 e9 E10 F10 P10 T10 C10 e10 E11 F11 P11 T11 C11 e11 G8 QQ RZ hL rX rRow
  go_wp2
  (try simp only [Exit.inBlock, Exit.then])
  refine bodyPost_ret (results_cell_row rfl _ _ (w.heap.size + 1) 37 _ (0, 0) _ rfl HL Try.underlying37 rfl Try.siz37) rfl ?_
  exact FIN.out
end Go.Proofs.Qxb6602564a
