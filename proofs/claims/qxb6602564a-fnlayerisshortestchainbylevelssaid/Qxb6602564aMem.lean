/-
  MEMORY, IN TWO WORDS: 'Row' (a block that the program itself made, cell by cell) and 'Only' (nothing but the listed blocks has turned).
-/
import Derived.WalkKit
import Derived.Deep.QuietTactic
import Derived.BigQuiet
import Derived.WalkSpells
namespace Go.Proofs.Qxb6602564a
open Go.RowKit

/-- From w to w' nothing has turned but the blocks listed in S; new blocks may have come. -/
structure Only (S : List Nat) (w w' : World) : Prop where
  os : w'.os = w.os
  tape : w'.tape = w.tape
  output : w'.output = w.output
  size : w.heap.size ≤ w'.heap.size
  block : ∀ k, k < w.heap.size → k ∉ S → w'.heap[k]? = w.heap[k]?

theorem Only.refl (S : List Nat) (w : World) : Only S w w := ⟨rfl, rfl, rfl, Nat.le_refl _, fun _ _ _ => rfl⟩
theorem Only.trans {S : List Nat} {a b c : World} (h : Only S a b) (k : Only S b c) : Only S a c :=
  ⟨k.os.trans h.os, k.tape.trans h.tape, k.output.trans h.output, Nat.le_trans h.size k.size,
    fun i hi hs => (k.block i (Nat.lt_of_lt_of_le hi h.size) hs).trans (h.block i hi hs)⟩
theorem Only.mono {S S' : List Nat} {a b : World} (h : Only S a b) (hs : ∀ k, k ∈ S → k ∈ S') : Only S' a b :=
  ⟨h.os, h.tape, h.output, h.size, fun k hk hn => h.block k hk (fun e => hn (hs k e))⟩
/-- A block that is listed in the second step alone may be one that the first step made. -/
theorem Only.trans' {S S' : List Nat} {a b c : World} (h : Only S a b) (k : Only S' b c) (hs : ∀ i, i ∈ S' → i ∈ S ∨ a.heap.size ≤ i) : Only S a c :=
  ⟨k.os.trans h.os, k.tape.trans h.tape, k.output.trans h.output, Nat.le_trans h.size k.size,
    fun i hi hn => (k.block i (Nat.lt_of_lt_of_le hi h.size) (fun e => by rcases hs i e with h1 | h1; exact hn h1; omega)).trans (h.block i hi hn)⟩
theorem Only.alloc (S : List Nat) (w : World) (o : Obj) : Only S w (w.alloc o) :=
  ⟨rfl, rfl, rfl, by simp, fun k hk _ => Below.heap_alloc w o k hk⟩
theorem Only.setCell (S : List Nat) (w : World) (a : Addr) (v : Value) (ha : a.block ∈ S) : Only S w (w.setCell a v) :=
  ⟨rfl, rfl, rfl, by simp [World.setCell], fun k _ hn => heap_setCell_other w a k v (fun e => hn (e ▸ ha))⟩
theorem Only.drew (S : List Nat) (w : World) : Only S w w.drew := ⟨rfl, rfl, rfl, Nat.le_refl _, fun _ _ _ => rfl⟩
theorem Only.drewN (S : List Nat) (w : World) (n : Nat) : Only S w (w.drewN n) := ⟨rfl, rfl, rfl, Nat.le_refl _, fun _ _ _ => rfl⟩
/-- A store into a listed block, or into one that was made since. -/
theorem Only.set {S : List Nat} {w0 w : World} (h : Only S w0 w) (b i : Nat) (v : Value) (hb : b ∈ S ∨ w0.heap.size ≤ b) : Only S w0 (w.setCell ⟨b, i, none⟩ v) :=
  h.trans' (Only.setCell [b] w ⟨b, i, none⟩ v (by simp)) (fun j hj => by simp at hj; subst hj; exact hb)
theorem Only.below {S : List Nat} {w w' : World} (h : Only S w w') {B : Nat} (hB : B ≤ w.heap.size) (hs : ∀ k, k ∈ S → B ≤ k) : Below B w w' :=
  ⟨h.os, h.tape, h.output, h.size, fun k hk => h.block k (by omega) (fun e => by have := hs k e; omega)⟩
theorem Only.of_below {w w' : World} (h : Below w.heap.size w w') : Only [] w w' :=
  ⟨h.os, h.tape, h.output, h.size, fun k hk _ => h.block k hk⟩
theorem Only.cell {S : List Nat} {w w' : World} (h : Only S w w') {a : Addr} (hs : a.block ∉ S) {v : Value} (hc : w.cell? a = some v) : w'.cell? a = some v :=
  (World.cell?_of_block (h.block a.block (block_lt_of_cell hc) hs)).trans hc

/-- f, but v at i. -/
def upd (f : Nat → Value) (i : Nat) (v : Value) : Nat → Value := fun j => if j = i then v else f j
theorem upd_at (f : Nat → Value) (i : Nat) (v : Value) : upd f i v i = v := by simp [upd]
theorem upd_ne (f : Nat → Value) {i j : Nat} (v : Value) (h : j ≠ i) : upd f i v j = f j := by simp [upd, h]

/-- Block b of w is a row of n cells or more (element type T), none of them frozen; cell i of the first n holds f i. -/
def Row (w : World) (b : Nat) (T : TypeId) (n : Nat) (f : Nat → Value) : Prop :=
  ∃ xs : Array Value, w.heap[b]? = some (.cells xs T (0, 0)) ∧ n ≤ xs.size ∧ ∀ i, i < n → xs[i]? = some (f i)

section
variable {w : World} {b : Nat} {T : TypeId} {n : Nat} {f : Nat → Value}
theorem Row.lt (h : Row w b T n f) : b < w.heap.size := by obtain ⟨xs, hx, _⟩ := h; exact lt_of_block hx
theorem Row.cell (h : Row w b T n f) {i : Nat} (hi : i < n) : w.cell? ⟨b, i, none⟩ = some (f i) := by
  obtain ⟨xs, hx, _, hf⟩ := h
  rw [cell_of_row w b i xs T (0, 0) hx]; exact hf i hi
theorem Row.frozen (h : Row w b T n f) (i : Nat) : w.frozen? ⟨b, i, none⟩ = false := by
  obtain ⟨xs, hx, _, hf⟩ := h
  exact frozen_of_row w b i xs T hx
theorem Row.ext {g : Nat → Value} (h : Row w b T n f) (hg : ∀ i, i < n → f i = g i) : Row w b T n g := by
  obtain ⟨xs, hx, hn, hf⟩ := h
  exact ⟨xs, hx, hn, fun i hi => by rw [hf i hi, hg i hi]⟩
theorem Row.set (h : Row w b T n f) (i : Nat) (v : Value) : Row (w.setCell ⟨b, i, none⟩ v) b T n (upd f i v) := by
  obtain ⟨xs, hx, hn, hf⟩ := h
  refine ⟨xs.setIfInBounds i v, heap_setCell_same w b i xs T v hx, by simpa using hn, fun j hj => ?_⟩
  rw [Array.getElem?_setIfInBounds]
  by_cases e : i = j
  · subst e; simp [upd, show i < xs.size by omega]
  · rw [if_neg e, hf j hj, upd_ne f v (Ne.symm e)]
theorem Row.other (h : Row w b T n f) (b' i : Nat) (hb : b ≠ b') (v : Value) : Row (w.setCell ⟨b', i, none⟩ v) b T n f := by
  obtain ⟨xs, hx, hn, hf⟩ := h
  exact ⟨xs, (heap_setCell_other w ⟨b', i, none⟩ b v hb).trans hx, hn, hf⟩
theorem Row.alloc (h : Row w b T n f) (o : Obj) : Row (w.alloc o) b T n f := by
  have hl := h.lt
  obtain ⟨xs, hx, hn, hf⟩ := h
  exact ⟨xs, (Below.heap_alloc w o b hl).trans hx, hn, hf⟩
theorem Row.made (w : World) (xs : Array Value) (T : TypeId) : Row (w.alloc (.cells xs T)) w.heap.size T xs.size (fun i => xs[i]!) :=
  ⟨xs, heap_alloc_new w _, Nat.le_refl _, fun i hi => by simp [hi]⟩
theorem Row.zeros (w : World) (n : Nat) (z : Value) (T : TypeId) : Row (w.alloc (.cells (Array.replicate n z) T)) w.heap.size T n (fun _ => z) :=
  ⟨Array.replicate n z, heap_alloc_new w _, by simp, fun i hi => by simp [hi]⟩
theorem Row.less (h : Row w b T n f) {m : Nat} (hm : m ≤ n) : Row w b T m f := by
  obtain ⟨xs, hx, hn, hf⟩ := h
  exact ⟨xs, hx, by omega, fun i hi => hf i (by omega)⟩
theorem Row.drew (h : Row w b T n f) : Row w.drew b T n f := h
theorem Row.drewN (h : Row w b T n f) (m : Nat) : Row (w.drewN m) b T n f := h
theorem Row.keep {S : List Nat} {w' : World} (h : Row w b T n f) (ho : Only S w w') (hb : b ∉ S) : Row w' b T n f := by
  have hl := h.lt
  obtain ⟨xs, hx, hn, hf⟩ := h
  exact ⟨xs, (ho.block b hl hb).trans hx, hn, hf⟩
end

theorem madeCells_rep (z : Value) (m n : Nat) (hm : 0 < m) : madeCells (Array.replicate m z) n = Array.replicate n z := by
  apply Array.ext
  · simp [madeCells]
  · intro i h1 h2
    have hlt : i % m < m := Nat.mod_lt _ hm
    simp [madeCells, hlt]

/-- 'make([]T, n)', T of 'size' cells that are all z when zero. -/
theorem run_make_list {P : Program} (t e : TypeId) (z : Value) (zv : Value) (size bytes n : Nat) (ht : P.underlying t = some (.slice e)) (hinfo : (P.info? e).map (fun i => (i.zero, i.size, i.bytes)) = some (some zv, size, bytes))
    (hz : zv.cells = Array.replicate size z) (hs : 0 < size) (kl kc : IntKind) (hb : bytes * n ≤ 281474976710656) (h63 : n ≤ 9223372036854775807) (w : World) :
    (Instr.makeSlice t (.int kl (n : Int)) (.int kc (n : Int))).run P w = .ok (.slice (some ⟨w.heap.size, 0, none⟩) n n) (w.alloc (.cells (Array.replicate (n * size) z) e)) := by
  obtain ⟨i, hi, hz0, hz1, hz2⟩ := info_parts hinfo
  have h := run_make (P := P) w t e i zv ht hi hz0 kl kc n n (by omega) (by omega) (by rw [hz2, ← Int.natCast_mul]; omega) (by omega)
  rw [hz1, hz, madeCells_rep z size _ hs] at h
  simpa using h

theorem ret_bool {a b : Bool} (h : a = b) : Ending.returned (.bool a) = .returned (.bool b) := by rw [h]

/-- It returned a bool r, of which p holds. (A name of its own: simp would part a bare 'there is a bool'.) -/
def RetB (e : Ending) (p : Bool → Prop) : Prop := ∃ r, e = .returned (.bool r) ∧ p r
theorem RetB.mk {p : Bool → Prop} (r : Bool) (h : p r) : RetB (.returned (.bool r)) p := ⟨r, rfl, h⟩

end Go.Proofs.Qxb6602564a
