/-
  THE ARGUMENT AS IT COMES IN: a struct of eleven slices and a number.
-/
import Derived.Test.Qxb6602564aLyMast
import Derived.Deep.Slices
import Derived.OpenShut
namespace Go.Proofs.Qxb6602564a
open Go.RowKit
set_option linter.unusedVariables false
def Elems (w : World) (B : Nat) (a : Option Addr) (n s : Nat) (f : Nat → Value) : Prop :=
  0 < n → ∃ b off, a = some ⟨b, off, none⟩ ∧ b < B ∧ ∀ i, i < n * s → w.cell? ⟨b, off + i, none⟩ = some (f i)
section
variable {H : Type} {enc : TypeId × Value → H} {P : Program} {w : World} {base : Nat} {spare : Nat → Bool} {held : Bool}
/-- The cells cs read as a value of type e. -/
def Reads {H : Type} (enc : TypeId × Value → H) (P : Program) (w : World) (base : Nat) (spare : Nat → Bool) (held : Bool) (e : TypeId) (cs : List Value) : Prop := ∃ n x, DataW.trod enc P w base spare held n e cs = some x
theorem open_elems {t e : TypeId} {s n c : Nat} {a : Option Addr} (ht : P.underlying t = some (.slice e)) (hc : P.cellsOf e = s) (hs : 0 < s) (h : Reads enc P w base spare held t [.slice a n c]) :
    (n : Int) ≤ 9223372036854775807 ∧ ∃ C : Nat → List Value, (∀ i, i < n → (C i).length = s ∧ Reads enc P w base spare held e (C i)) ∧ Elems w w.heap.size a n s (fun k => (C (k / s)).getD (k % s) (.bool false)) := by
  obtain ⟨fu, x, h⟩ := h
  rcases Go.Deep.open_slice ht h with ⟨h0, _⟩ | ⟨a', len, cap, m, fu', D, Pl, h0, hb, hl, hm, hmm, _, hx⟩
  · simp at h0
    obtain ⟨rfl, rfl, rfl⟩ := h0
    exact ⟨by omega, fun _ => [], fun i hi => by omega, fun h => by omega⟩
  · simp at h0
    obtain ⟨rfl, rfl, rfl⟩ := h0
    rw [hc] at hx
    have hnm : n ≤ m := by rw [hmm]; split <;> omega
    obtain ⟨C, hC⟩ := Go.Deep.choose_lt (n := n) (p := fun i cs' => w.cells? base (a'.add (i * s)) s = some cs' ∧ DataW.trod enc P w base spare held fu' e cs' = some (D i, Pl i)) (fun i hi => hx i (by omega))
    unfold maxLen at hm
    have key : ∀ i, i < n → (C i).length = s ∧ ∀ j, j < s → w.cell? (a'.add (i * s + j)) = (C i)[j]? := fun i hi => by
      obtain ⟨_, h2, h3⟩ := World.cells?_some (hC i hi).1
      refine ⟨h2, fun j hj => ?_⟩
      rw [← Go.Deep.add_add]; exact h3 j hj
    refine ⟨by omega, C, fun i hi => ⟨(key i hi).1, _, _, (hC i hi).2⟩, fun hn => ?_⟩
    have h00 := (key 0 hn).2 0 hs
    have hg : ∀ i, i < n → ∀ j, j < s → w.cell? (a'.add (i * s + j)) = some ((C i).getD j (.bool false)) := fun i hi j hj => by
      rw [(key i hi).2 j hj]
      have := (key i hi).1
      simp [List.getD_eq_getElem?_getD, this, hj]
    obtain ⟨b, off, spot⟩ := a'
    have hc0 := hg 0 hn 0 hs
    have hspot : spot = none := by simpa [Addr.add] using World.cell?_spot hc0
    subst hspot
    have e : ∀ j, (⟨b, off, none⟩ : Addr).add j = ⟨b, off + j, none⟩ := fun j => by unfold Addr.add; split <;> simp_all
    refine ⟨b, off, rfl, ?_, fun i hi => ?_⟩
    · have := block_lt_of_cell hc0
      rwa [e] at this
    · have hd : i / s < n := (Nat.div_lt_iff_lt_mul hs).2 hi
      have hm' := Nat.mod_lt i hs
      have h1 := hg (i / s) hd (i % s) hm'
      rw [e, show i / s * s + i % s = i from by rw [Nat.mul_comm]; exact Nat.div_add_mod i s] at h1
      exact h1
theorem reads_int {t : TypeId} {k : IntKind} {cs : List Value} (ht : P.underlying t = some (.int k)) (h : Reads enc P w base spare held t cs) : ∃ z : Int, cs = [.int k z] ∧ (Lit.int k z).wf = true := by
  obtain ⟨fu, x, h⟩ := h
  cases fu with
  | zero => simp [DataW.trod] at h
  | succ fu =>
    unfold DataW.trod at h
    rw [ht] at h
    split at h <;> simp_all
theorem reads_slice {t e : TypeId} {cs : List Value} (ht : P.underlying t = some (.slice e)) (h : Reads enc P w base spare held t cs) : ∃ a n c, cs = [.slice a n c] := by
  obtain ⟨fu, x, h⟩ := h
  rcases Go.Deep.open_slice ht h with ⟨h0, _⟩ | ⟨a', len, cap, m, fu', D, Pl, h0, _⟩
  · exact ⟨_, _, _, h0⟩
  · exact ⟨_, _, _, h0⟩
theorem reads_field {t : TypeId} {fs : Array Field} {cs : List Value} (ht : P.underlying t = some (.struct fs)) (i : Nat) (f : Field) (hf : fs[i]? = some f) (hc : P.cellsOf f.type = 1) (h : Reads enc P w base spare held t cs) :
    Reads enc P w base spare held f.type ((cs.drop f.offset).take 1) := by
  obtain ⟨fu, x, h⟩ := h
  obtain ⟨xs, n, _, _, _, hl, hx⟩ := DataW.trod_struct ht h
  have h0 := hx i f hf
  have hi : i < fs.size := by
    by_cases hi : i < fs.size
    · exact hi
    · rw [Array.getElem?_eq_none (by omega)] at hf; cases hf
  rw [hc, List.getElem?_eq_getElem (by omega)] at h0
  exact ⟨_, _, h0⟩
theorem has_in {t e : TypeId} {k : IntKind} {n c : Nat} {a : Option Addr} (ht : P.underlying t = some (.slice e)) (he : P.underlying e = some (.int k)) (hc : P.cellsOf e = 1) (h : Reads enc P w base spare held t [.slice a n c]) :
    ∃ S : Nat → Int, Has w w.heap.size k a n S ∧ (n : Int) ≤ 9223372036854775807 ∧ ∀ i, i < n → (Lit.int k (S i)).wf = true := by
  obtain ⟨hn, C, hC, hE⟩ := open_elems ht hc (by omega) h
  obtain ⟨S, hS⟩ := Go.Deep.choose_lt (n := n) (p := fun i (z : Int) => C i = [.int k z] ∧ (Lit.int k z).wf = true) (fun i hi => reads_int he (hC i hi).2)
  refine ⟨S, fun h0 => ?_, hn, fun i hi => (hS i hi).2⟩
  obtain ⟨b, off, e1, e2, e3⟩ := hE h0
  refine ⟨b, off, e1, e2, fun i hi => ?_⟩
  rw [e3 i (by omega)]
  show some ((C (i / 1)).getD (i % 1) _) = _
  rw [Nat.div_one, (hS i (by omega)).1, Nat.mod_one]; rfl
/-- A slice of slices of integers. -/
theorem lists_in {t e q : TypeId} {k : IntKind} {n c : Nat} {a : Option Addr} (ht : P.underlying t = some (.slice e)) (he : P.underlying e = some (.slice q)) (hq : P.underlying q = some (.int k)) (hc : P.cellsOf e = 1) (cq : P.cellsOf q = 1) (h : Reads enc P w base spare held t [.slice a n c]) :
    (n : Int) ≤ 9223372036854775807 ∧ ∃ X : Nat → (Option Addr × Nat × Nat) × (Nat → Int), (0 < n → ∃ b off, a = some ⟨b, off, none⟩ ∧ b < w.heap.size ∧ ∀ i, i < n → w.cell? ⟨b, off + i, none⟩ = some (.slice (X i).1.1 (X i).1.2.1 (X i).1.2.2)) ∧
      ∀ i, i < n → Has w w.heap.size k (X i).1.1 (X i).1.2.1 (X i).2 ∧ ((X i).1.2.1 : Int) ≤ 9223372036854775807 ∧ ∀ j, j < (X i).1.2.1 → (Lit.int k ((X i).2 j)).wf = true := by
  obtain ⟨hn, C, hC, hE⟩ := open_elems ht hc (by omega) h
  obtain ⟨X, hX⟩ := Go.Deep.choose_lt (n := n) (p := fun i (x : (Option Addr × Nat × Nat) × (Nat → Int)) => C i = [.slice x.1.1 x.1.2.1 x.1.2.2] ∧ Has w w.heap.size k x.1.1 x.1.2.1 x.2 ∧ (x.1.2.1 : Int) ≤ 9223372036854775807 ∧ ∀ j, j < x.1.2.1 → (Lit.int k (x.2 j)).wf = true) (fun i hi => by
    obtain ⟨sa, sn, sc, e1⟩ := reads_slice he (hC i hi).2
    have r := (hC i hi).2
    rw [e1] at r
    obtain ⟨S, h1, h2, h3⟩ := has_in he hq cq r
    exact ⟨((sa, sn, sc), S), e1, h1, h2, h3⟩)
  refine ⟨hn, X, fun h0 => ?_, fun i hi => (hX i hi).2⟩
  obtain ⟨b, off, e1, e2, e3⟩ := hE h0
  refine ⟨b, off, e1, e2, fun i hi => ?_⟩
  rw [e3 i (by omega)]
  show some ((C (i / 1)).getD (i % 1) _) = _
  rw [Nat.div_one, (hX i (by omega)).1, Nat.mod_one]; rfl
end
theorem Try.cells37 : Try.prog.cellsOf 37 = 12 := by kernel_rfl
theorem Try.cells34 : Try.prog.cellsOf 34 = 1 := by kernel_rfl
theorem Try.cells26 : Try.prog.cellsOf 26 = 1 := by kernel_rfl
theorem Try.cells3 : Try.prog.cellsOf 3 = 1 := by kernel_rfl
theorem Try.cells35 : Try.prog.cellsOf 35 = 1 := by kernel_rfl
theorem Try.cells21 : Try.prog.cellsOf 21 = 1 := by kernel_rfl
theorem i32_fit {z : Int} (h : (Lit.int .i32 z).wf = true) : -2147483648 ≤ z ∧ z ≤ 2147483647 := by
  simp only [Lit.wf, Bool.and_eq_true, decide_eq_true_eq] at h
  have h1 : IntKind.i32.min = -2147483648 := by decide
  have h2 : IntKind.i32.max = 2147483647 := by decide
  rw [h1, h2] at h
  exact h
theorem masters_in {H : Type} {enc : TypeId × Value → H} {w : World} (cs : Array Value) (hsz : cs.size = 12) (r : Reads enc Try.prog w 0 (fun _ => true) true 37 cs.toList) : ∃ m : M, cs = #[.slice m.a0 m.n0 m.c0, .slice m.a1 m.n1 m.c1, .slice m.a2 m.n2 m.c2, .slice m.a3 m.n3 m.c3, .slice m.a4 m.n4 m.c4, .slice m.a5 m.n5 m.c5, .slice m.a6 m.n6 m.c6, .int .i64 m.k, .slice m.a8 m.n8 m.c8, .slice m.a9 m.n9 m.c9, .slice m.a10 m.n10 m.c10, .slice m.a11 m.n11 m.c11] ∧ Laid w w.heap.size m := by
  obtain ⟨l⟩ := cs
  match l, hsz with
  | [v0, v1, v2, v3, v4, v5, v6, v7, v8, v9, v10, v11], _ =>
    have r0 := reads_field Try.underlying37 0 _ rfl Try.cells34 r
    have r0 : Reads enc Try.prog w 0 (fun _ => true) true 34 [v0] := r0
    have r1 := reads_field Try.underlying37 1 _ rfl Try.cells34 r
    have r1 : Reads enc Try.prog w 0 (fun _ => true) true 34 [v1] := r1
    have r2 := reads_field Try.underlying37 2 _ rfl Try.cells34 r
    have r2 : Reads enc Try.prog w 0 (fun _ => true) true 34 [v2] := r2
    have r3 := reads_field Try.underlying37 3 _ rfl Try.cells26 r
    have r3 : Reads enc Try.prog w 0 (fun _ => true) true 26 [v3] := r3
    have r4 := reads_field Try.underlying37 4 _ rfl Try.cells34 r
    have r4 : Reads enc Try.prog w 0 (fun _ => true) true 34 [v4] := r4
    have r5 := reads_field Try.underlying37 5 _ rfl Try.cells34 r
    have r5 : Reads enc Try.prog w 0 (fun _ => true) true 34 [v5] := r5
    have r6 := reads_field Try.underlying37 6 _ rfl Try.cells34 r
    have r6 : Reads enc Try.prog w 0 (fun _ => true) true 34 [v6] := r6
    have r7 := reads_field Try.underlying37 7 _ rfl Try.cells3 r
    have r7 : Reads enc Try.prog w 0 (fun _ => true) true 3 [v7] := r7
    have r8 := reads_field Try.underlying37 8 _ rfl Try.cells35 r
    have r8 : Reads enc Try.prog w 0 (fun _ => true) true 35 [v8] := r8
    have r9 := reads_field Try.underlying37 9 _ rfl Try.cells26 r
    have r9 : Reads enc Try.prog w 0 (fun _ => true) true 26 [v9] := r9
    have r10 := reads_field Try.underlying37 10 _ rfl Try.cells26 r
    have r10 : Reads enc Try.prog w 0 (fun _ => true) true 26 [v10] := r10
    have r11 := reads_field Try.underlying37 11 _ rfl Try.cells26 r
    have r11 : Reads enc Try.prog w 0 (fun _ => true) true 26 [v11] := r11
    obtain ⟨a0, n0, c0, e0⟩ := reads_slice Try.underlying34 r0
    obtain rfl : v0 = .slice a0 n0 c0 := by simpa using e0
    obtain ⟨a1, n1, c1, e1⟩ := reads_slice Try.underlying34 r1
    obtain rfl : v1 = .slice a1 n1 c1 := by simpa using e1
    obtain ⟨a2, n2, c2, e2⟩ := reads_slice Try.underlying34 r2
    obtain rfl : v2 = .slice a2 n2 c2 := by simpa using e2
    obtain ⟨a3, n3, c3, e3⟩ := reads_slice Try.underlying26 r3
    obtain rfl : v3 = .slice a3 n3 c3 := by simpa using e3
    obtain ⟨a4, n4, c4, e4⟩ := reads_slice Try.underlying34 r4
    obtain rfl : v4 = .slice a4 n4 c4 := by simpa using e4
    obtain ⟨a5, n5, c5, e5⟩ := reads_slice Try.underlying34 r5
    obtain rfl : v5 = .slice a5 n5 c5 := by simpa using e5
    obtain ⟨a6, n6, c6, e6⟩ := reads_slice Try.underlying34 r6
    obtain rfl : v6 = .slice a6 n6 c6 := by simpa using e6
    obtain ⟨z7, e7, _⟩ := reads_int Try.underlying3 r7
    obtain rfl : v7 = .int .i64 z7 := by simpa using e7
    obtain ⟨a8, n8, c8, e8⟩ := reads_slice Try.underlying35 r8
    obtain rfl : v8 = .slice a8 n8 c8 := by simpa using e8
    obtain ⟨a9, n9, c9, e9⟩ := reads_slice Try.underlying26 r9
    obtain rfl : v9 = .slice a9 n9 c9 := by simpa using e9
    obtain ⟨a10, n10, c10, e10⟩ := reads_slice Try.underlying26 r10
    obtain rfl : v10 = .slice a10 n10 c10 := by simpa using e10
    obtain ⟨a11, n11, c11, e11⟩ := reads_slice Try.underlying26 r11
    obtain rfl : v11 = .slice a11 n11 c11 := by simpa using e11
    obtain ⟨f0, h0, z0, w0⟩ := has_in Try.underlying34 Try.underlying21 Try.cells21 r0
    obtain ⟨f1, h1, z1, w1⟩ := has_in Try.underlying34 Try.underlying21 Try.cells21 r1
    obtain ⟨f2, h2, z2, w2⟩ := has_in Try.underlying34 Try.underlying21 Try.cells21 r2
    obtain ⟨f3, h3, z3, w3⟩ := has_in Try.underlying26 Try.underlying3 Try.cells3 r3
    obtain ⟨f4, h4, z4, w4⟩ := has_in Try.underlying34 Try.underlying21 Try.cells21 r4
    obtain ⟨f5, h5, z5, w5⟩ := has_in Try.underlying34 Try.underlying21 Try.cells21 r5
    obtain ⟨f6, h6, z6, w6⟩ := has_in Try.underlying34 Try.underlying21 Try.cells21 r6
    obtain ⟨f9, h9, z9, w9⟩ := has_in Try.underlying26 Try.underlying3 Try.cells3 r9
    obtain ⟨f10, h10, z10, w10⟩ := has_in Try.underlying26 Try.underlying3 Try.cells3 r10
    obtain ⟨f11, h11, z11, w11⟩ := has_in Try.underlying26 Try.underlying3 Try.cells3 r11
    obtain ⟨z8, X, h8, hX⟩ := lists_in Try.underlying35 Try.underlying34 Try.underlying21 Try.cells34 Try.cells21 r8
    refine ⟨{ a0 := a0, n0 := n0, c0 := c0, a1 := a1, n1 := n1, c1 := c1, a2 := a2, n2 := n2, c2 := c2, a3 := a3, n3 := n3, c3 := c3, a4 := a4, n4 := n4, c4 := c4, a5 := a5, n5 := n5, c5 := c5, a6 := a6, n6 := n6, c6 := c6, a8 := a8, n8 := n8, c8 := c8, a9 := a9, n9 := n9, c9 := c9, a10 := a10, n10 := n10, c10 := c10, a11 := a11, n11 := n11, c11 := c11, k := z7, f0 := f0, f1 := f1, f2 := f2, f3 := f3, f4 := f4, f5 := f5, f6 := f6, f9 := f9, f10 := f10, f11 := f11, ua := fun i => (X i).1.1, un := fun i => (X i).1.2.1, uc := fun i => (X i).1.2.2, uf := fun i => (X i).2 }, rfl, ?_⟩
    exact { h0 := h0, h1 := h1, h2 := h2, h3 := h3, h4 := h4, h5 := h5, h6 := h6, h8 := h8, h9 := h9, h10 := h10, h11 := h11, hu := fun i hi => (hX i hi).1, q0 := fun i hi => i32_fit (w0 i hi), q1 := fun i hi => i32_fit (w1 i hi), q2 := fun i hi => i32_fit (w2 i hi), q4 := fun i hi => i32_fit (w4 i hi), q5 := fun i hi => i32_fit (w5 i hi), q6 := fun i hi => i32_fit (w6 i hi), qu := fun i hi j hj => i32_fit ((hX i hi).2.2 j hj), z0 := z0, z1 := z1, z2 := z2, z3 := z3, z4 := z4, z5 := z5, z6 := z6, z8 := z8, z9 := z9, z10 := z10, z11 := z11, zu := fun i hi => (hX i hi).2.1 }
end Go.Proofs.Qxb6602564a
