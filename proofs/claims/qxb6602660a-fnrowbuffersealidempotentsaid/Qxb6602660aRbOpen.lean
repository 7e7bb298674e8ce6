/-
  THE ARGUMENTS AS THEY COME IN: slices of strings, bools, arrays of integers, and slices of such slices.
-/
import Derived.Test.Qxb6602660aRb
import Derived.Deep.Slices
import Derived.OpenShut
namespace Go.Proofs.Qxb6602660a
open Go.RowKit
set_option linter.unusedVariables false
section
variable {H : Type} {enc : TypeId × Value → H} {P : Program} {w : World} {base : Nat} {spare : Nat → Bool} {held : Bool}
/-- The cells cs read as a value of type e. -/
def Reads {H : Type} (enc : TypeId × Value → H) (P : Program) (w : World) (base : Nat) (spare : Nat → Bool) (held : Bool) (e : TypeId) (cs : List Value) : Prop := ∃ n x, DataW.trod enc P w base spare held n e cs = some x
theorem open_elems {t e : TypeId} {s n c : Nat} {a : Option Addr} (ht : P.underlying t = some (.slice e)) (hc : P.cellsOf e = s) (hs : 0 < s) (h : Reads enc P w base spare held t [.slice a n c]) :
    (n : Int) ≤ 9223372036854775807 ∧ ∃ C : Nat → List Value, (∀ i, i < n → (C i).length = s ∧ Reads enc P w base spare held e (C i)) ∧ Elems w w.heap.size a n s (fun k => (C (k / s)).getD (k % s) (.bool false)) := by
  obtain ⟨fu, x, h⟩ := h
  rcases Go.Deep.open_slice ht h with ⟨h0, _⟩ | ⟨a', len, cap, m, fu', D, Pl, h0, hb, hl, hm, hmm, _, hx⟩
  · simp at h0
    obtain ⟨rfl, rfl, rfl⟩ := h0
    exact ⟨by omega, fun _ => [], fun i hi => by omega, fun h => by omega⟩
  · simp at h0
    obtain ⟨rfl, rfl, rfl⟩ := h0
    rw [hc] at hx
    have hnm : n ≤ m := by rw [hmm]; split <;> omega
    obtain ⟨C, hC⟩ := Go.Deep.choose_lt (n := n) (p := fun i cs' => w.cells? base (a'.add (i * s)) s = some cs' ∧ DataW.trod enc P w base spare held fu' e cs' = some (D i, Pl i)) (fun i hi => hx i (by omega))
    unfold maxLen at hm
    have key : ∀ i, i < n → (C i).length = s ∧ ∀ j, j < s → w.cell? (a'.add (i * s + j)) = (C i)[j]? := fun i hi => by
      obtain ⟨_, h2, h3⟩ := World.cells?_some (hC i hi).1
      refine ⟨h2, fun j hj => ?_⟩
      rw [← Go.Deep.add_add]; exact h3 j hj
    refine ⟨by omega, C, fun i hi => ⟨(key i hi).1, _, _, (hC i hi).2⟩, fun hn => ?_⟩
    have h00 := (key 0 hn).2 0 hs
    have hg : ∀ i, i < n → ∀ j, j < s → w.cell? (a'.add (i * s + j)) = some ((C i).getD j (.bool false)) := fun i hi j hj => by
      rw [(key i hi).2 j hj]
      have := (key i hi).1
      simp [List.getD_eq_getElem?_getD, this, hj]
    obtain ⟨b, off, spot⟩ := a'
    have hc0 := hg 0 hn 0 hs
    have hspot : spot = none := by simpa [Addr.add] using World.cell?_spot hc0
    subst hspot
    have e : ∀ j, (⟨b, off, none⟩ : Addr).add j = ⟨b, off + j, none⟩ := fun j => by unfold Addr.add; split <;> simp_all
    refine ⟨b, off, rfl, ?_, fun i hi => ?_⟩
    · have := block_lt_of_cell hc0
      rwa [e] at this
    · have hd : i / s < n := (Nat.div_lt_iff_lt_mul hs).2 hi
      have hm' := Nat.mod_lt i hs
      have h1 := hg (i / s) hd (i % s) hm'
      rw [e, show i / s * s + i % s = i from by rw [Nat.mul_comm]; exact Nat.div_add_mod i s] at h1
      exact h1
theorem reads_string {t : TypeId} {cs : List Value} (ht : P.underlying t = some .string) (h : Reads enc P w base spare held t cs) : ∃ b : ByteArray, cs = [.string b] ∧ (b.size : Int) ≤ 9223372036854775807 := by
  obtain ⟨fu, x, h⟩ := h
  cases fu with
  | zero => simp [DataW.trod] at h
  | succ fu =>
    unfold DataW.trod at h
    rw [ht] at h
    split at h <;> simp_all
    unfold maxLen at h
    omega
theorem reads_bool {t : TypeId} {cs : List Value} (ht : P.underlying t = some .bool) (h : Reads enc P w base spare held t cs) : ∃ b : Bool, cs = [.bool b] := by
  obtain ⟨fu, x, h⟩ := h
  cases fu with
  | zero => simp [DataW.trod] at h
  | succ fu =>
    unfold DataW.trod at h
    rw [ht] at h
    split at h <;> simp_all
theorem reads_int {t : TypeId} {k : IntKind} {cs : List Value} (ht : P.underlying t = some (.int k)) (h : Reads enc P w base spare held t cs) : ∃ z : Int, cs = [.int k z] ∧ (Lit.int k z).wf = true := by
  obtain ⟨fu, x, h⟩ := h
  cases fu with
  | zero => simp [DataW.trod] at h
  | succ fu =>
    unfold DataW.trod at h
    rw [ht] at h
    split at h <;> simp_all
theorem reads_slice {t e : TypeId} {cs : List Value} (ht : P.underlying t = some (.slice e)) (h : Reads enc P w base spare held t cs) : ∃ a n c, cs = [.slice a n c] := by
  obtain ⟨fu, x, h⟩ := h
  rcases Go.Deep.open_slice ht h with ⟨h0, _⟩ | ⟨a', len, cap, m, fu', D, Pl, h0, _⟩
  · exact ⟨_, _, _, h0⟩
  · exact ⟨_, _, _, h0⟩
theorem reads_array {t e : TypeId} {k : IntKind} {n : Nat} {cs : List Value} (ht : P.underlying t = some (.array n e)) (he : P.underlying e = some (.int k)) (hc : P.cellsOf e = 1) (h : Reads enc P w base spare held t cs) :
    ∃ z : Nat → Int, ∀ i, i < n → cs[i]? = some (.int k (z i)) ∧ (Lit.int k (z i)).wf = true := by
  obtain ⟨fu, x, h⟩ := h
  obtain ⟨xs, m, _, _, _, hl, hx⟩ := DataW.trod_array ht h
  rw [hc] at hx
  refine Go.Deep.choose_lt (n := n) (p := fun i z => cs[i]? = some (.int k z) ∧ (Lit.int k z).wf = true) (fun i hi => ?_)
  have h1 := hx i hi
  rw [List.getElem?_eq_getElem (by omega)] at h1
  obtain ⟨z, hz, hw⟩ := reads_int he ⟨m, _, h1⟩
  refine ⟨z, ?_, hw⟩
  have h2 : ((cs.drop (i * 1)).take 1)[0]? = some (.int k z) := by rw [hz]; rfl
  simpa using h2
theorem open_strs' {t e : TypeId} {n c : Nat} {a : Option Addr} (ht : P.underlying t = some (.slice e)) (he : P.underlying e = some .string) (hc : P.cellsOf e = 1) (h : Reads enc P w base spare held t [.slice a n c]) :
    ∃ S : Nat → ByteArray, Elems w w.heap.size a n 1 (fun i => .string (S i)) ∧ (n : Int) ≤ 9223372036854775807 ∧ ∀ i, i < n → ((S i).size : Int) ≤ 9223372036854775807 := by
  obtain ⟨hn, C, hC, hE⟩ := open_elems ht hc (by omega) h
  obtain ⟨S, hS⟩ := Go.Deep.choose_lt (n := n) (p := fun i (b : ByteArray) => C i = [.string b] ∧ (b.size : Int) ≤ 9223372036854775807) (fun i hi => reads_string he (hC i hi).2)
  refine ⟨S, fun h0 => ?_, hn, fun i hi => (hS i hi).2⟩
  obtain ⟨b, off, e1, e2, e3⟩ := hE h0
  refine ⟨b, off, e1, e2, fun i hi => ?_⟩
  rw [e3 i hi]
  show some ((C (i / 1)).getD (i % 1) _) = _
  rw [Nat.div_one, (hS i (by omega)).1, Nat.mod_one]; rfl
theorem open_bools' {t e : TypeId} {n c : Nat} {a : Option Addr} (ht : P.underlying t = some (.slice e)) (he : P.underlying e = some .bool) (hc : P.cellsOf e = 1) (h : Reads enc P w base spare held t [.slice a n c]) :
    ∃ S : Nat → Bool, Elems w w.heap.size a n 1 (fun i => .bool (S i)) ∧ (n : Int) ≤ 9223372036854775807 := by
  obtain ⟨hn, C, hC, hE⟩ := open_elems ht hc (by omega) h
  obtain ⟨S, hS⟩ := Go.Deep.choose_lt (n := n) (p := fun i (b : Bool) => C i = [.bool b]) (fun i hi => reads_bool he (hC i hi).2)
  refine ⟨S, fun h0 => ?_, hn⟩
  obtain ⟨b, off, e1, e2, e3⟩ := hE h0
  refine ⟨b, off, e1, e2, fun i hi => ?_⟩
  rw [e3 i hi]
  show some ((C (i / 1)).getD (i % 1) _) = _
  rw [Nat.div_one, hS i (by omega), Nat.mod_one]; rfl
theorem open_arrays {t e q : TypeId} {k : IntKind} {s n c : Nat} {a : Option Addr} (ht : P.underlying t = some (.slice e)) (he : P.underlying e = some (.array s q)) (hq : P.underlying q = some (.int k)) (hc : P.cellsOf e = s) (hs : 0 < s) (cq : P.cellsOf q = 1)
    (h : Reads enc P w base spare held t [.slice a n c]) :
    ∃ S : Nat → Nat → Int, Elems w w.heap.size a n s (fun i => .int k (S (i / s) (i % s))) ∧ (n : Int) ≤ 9223372036854775807 ∧ ∀ i, i < n → ∀ j, j < s → (Lit.int k (S i j)).wf = true := by
  obtain ⟨hn, C, hC, hE⟩ := open_elems ht hc hs h
  obtain ⟨S, hS⟩ := Go.Deep.choose_lt (n := n) (p := fun i (z : Nat → Int) => ∀ j, j < s → (C i)[j]? = some (.int k (z j)) ∧ (Lit.int k (z j)).wf = true) (fun i hi => reads_array he hq cq (hC i hi).2)
  refine ⟨S, fun h0 => ?_, hn, fun i hi j hj => (hS i hi j hj).2⟩
  obtain ⟨b, off, e1, e2, e3⟩ := hE h0
  refine ⟨b, off, e1, e2, fun i hi => ?_⟩
  have hd : i / s < n := (Nat.div_lt_iff_lt_mul hs).2 hi
  rw [e3 i hi]
  show some ((C (i / s)).getD (i % s) _) = _
  rw [List.getD_eq_getElem?_getD, (hS (i / s) hd (i % s) (Nat.mod_lt i hs)).1]; rfl
theorem open_rows {t e q : TypeId} {n c : Nat} {a : Option Addr} (ht : P.underlying t = some (.slice e)) (he : P.underlying e = some (.slice q)) (hc : P.cellsOf e = 1) (h : Reads enc P w base spare held t [.slice a n c]) :
    ∃ (b : Nat → Option Addr) (m d : Nat → Nat), Elems w w.heap.size a n 1 (fun i => .slice (b i) (m i) (d i)) ∧ (n : Int) ≤ 9223372036854775807 ∧ ∀ i, i < n → Reads enc P w base spare held e [.slice (b i) (m i) (d i)] := by
  obtain ⟨hn, C, hC, hE⟩ := open_elems ht hc (by omega) h
  obtain ⟨S, hS⟩ := Go.Deep.choose_lt (n := n) (p := fun i (x : Option Addr × Nat × Nat) => C i = [.slice x.1 x.2.1 x.2.2]) (fun i hi => by obtain ⟨a, n, c, h⟩ := reads_slice he (hC i hi).2; exact ⟨(a, n, c), h⟩)
  refine ⟨fun i => (S i).1, fun i => (S i).2.1, fun i => (S i).2.2, fun h0 => ?_, hn, fun i hi => by rw [← hS i hi]; exact (hC i hi).2⟩
  obtain ⟨b, off, e1, e2, e3⟩ := hE h0
  refine ⟨b, off, e1, e2, fun i hi => ?_⟩
  rw [e3 i hi]
  show some ((C (i / 1)).getD (i % 1) _) = _
  rw [Nat.div_one, hS i (by omega), Nat.mod_one]; rfl
/-- A struct of two one-cell fields. -/
theorem reads_struct2 {t : TypeId} {f0 f1 : Field} {cs : List Value} (ht : P.underlying t = some (.struct #[f0, f1])) (o0 : f0.offset = 0) (o1 : f1.offset = 1) (c0 : P.cellsOf f0.type = 1) (c1 : P.cellsOf f1.type = 1) (h : Reads enc P w base spare held t cs) :
    Reads enc P w base spare held f0.type (cs.take 1) ∧ Reads enc P w base spare held f1.type ((cs.drop 1).take 1) := by
  obtain ⟨fu, x, h⟩ := h
  obtain ⟨xs, n, _, _, _, hl, hx⟩ := DataW.trod_struct ht h
  have hl : xs.length = 2 := hl
  have h0 := hx 0 f0 rfl
  have h1 := hx 1 f1 rfl
  rw [o0, c0, List.drop_zero, List.getElem?_eq_getElem (by omega)] at h0
  rw [o1, c1, List.getElem?_eq_getElem (by omega)] at h1
  exact ⟨⟨_, _, h0⟩, ⟨_, _, h1⟩⟩
end
end Go.Proofs.Qxb6602660a
