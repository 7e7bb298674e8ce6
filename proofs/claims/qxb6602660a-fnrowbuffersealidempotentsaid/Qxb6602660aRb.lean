/-
  WHAT THE WALKS SHARE: elements of a slice, new rows, appended rows; the arguments as plain data.
-/
import Derived.Test.Qxb6602660aRows
import Derived.Test.Qxb6602660aMem
import Derived.Laws.AppendOwn
namespace Go.Proofs.Qxb6602660a
open Go.RowKit
set_option linter.unusedVariables false

/-- A slice of n elements of s cells each lies below block B: where it has an element it leads to cells. -/
def Elems (w : World) (B : Nat) (a : Option Addr) (n s : Nat) (f : Nat → Value) : Prop :=
  0 < n → ∃ b off, a = some ⟨b, off, none⟩ ∧ b < B ∧ ∀ i, i < n * s → w.cell? ⟨b, off + i, none⟩ = some (f i)
theorem Elems.keep {w w' : World} {B n s : Nat} {a : Option Addr} {f : Nat → Value} (h : Elems w B a n s f) (hb : Below B w w') : Elems w' B a n s f := fun hn => by
  obtain ⟨b, off, e, hlt, hc⟩ := h hn
  exact ⟨b, off, e, hlt, fun i hi => by rw [hb.cell (p := ⟨b, off + i, none⟩) hlt]; exact hc i hi⟩
theorem Elems.up {w w' : World} {B B' n s : Nat} {a : Option Addr} {f : Nat → Value} (h : Elems w B a n s f) (ho : Only [] w w') (hB : B ≤ B') : Elems w' B' a n s f := fun hn => by
  obtain ⟨b, off, e, hlt, hc⟩ := h hn
  exact ⟨b, off, e, by omega, fun i hi => ho.cell (by simp) (hc i hi)⟩
/-- An element's address, whatever the slice's address is spelt as. -/
theorem run_at {P : Program} (t e : TypeId) (a : Option Addr) (n c b off s : Nat) (kd : IntKind) (i : Nat) (hu : P.underlying t = some (.slice e)) (hs : (P.info? e).map (·.size) = some s) (ha : a = some ⟨b, off, none⟩) (hi : i < n) (w : World) :
    (Instr.indexAt t (.slice a n c) (.int kd (i : Int))).run P w = .ok (.pointer (some ⟨b, off + i * s, none⟩)) w := by
  subst ha
  have h2 : P.elem t = e := by simp [Program.elem, hu]
  rw [run_indexAt_slice w t ⟨b, off, none⟩ n c kd i (by rw [h2]; exact hu), if_pos ⟨by omega, by omega⟩, h2]
  cases hq : P.info? e with
  | none => simp [hq] at hs
  | some inf =>
    have hz : inf.size = s := by simpa [hq] using hs
    simp [sizeOf, typeInfo, hq, hz, Addr.add]
theorem run_at1 {P : Program} (t e : TypeId) (a : Option Addr) (n c b off : Nat) (kd : IntKind) (i : Nat) (hu : P.underlying t = some (.slice e)) (hs : (P.info? e).map (·.size) = some 1) (ha : a = some ⟨b, off, none⟩) (hi : i < n) (w : World) :
    (Instr.indexAt t (.slice a n c) (.int kd (i : Int))).run P w = .ok (.pointer (some ⟨b, off + i, none⟩)) w := by
  have h := run_at (P := P) t e a n c b off 1 kd i hu hs ha hi w
  simpa using h
theorem run_make_any {P : Program} (t e : TypeId) (zv : Value) (size bytes n : Nat) (ht : P.underlying t = some (.slice e)) (hinfo : (P.info? e).map (fun i => (i.zero, i.size, i.bytes)) = some (some zv, size, bytes))
    (kl kc : IntKind) (hb : bytes * n ≤ 281474976710656) (h63 : n ≤ 9223372036854775807) (w : World) :
    (Instr.makeSlice t (.int kl (n : Int)) (.int kc (n : Int))).run P w = .ok (.slice (some ⟨w.heap.size, 0, none⟩) n n) (w.alloc (.cells (madeCells zv.cells (n * size)) e)) := by
  obtain ⟨i, hi, hz0, hz1, hz2⟩ := info_parts hinfo
  have h := run_make (P := P) w t e i zv ht hi hz0 kl kc n n (by omega) (by omega) (by rw [hz2, ← Int.natCast_mul]; omega) (by omega)
  rw [hz1] at h
  simpa using h
/-- The cells o .. o + n - 1 of block b, stored one after the other. -/
def setN (w : World) (b o : Nat) (x : Nat → Value) : Nat → World
  | 0 => w
  | n + 1 => (setN w b o x n).setCell ⟨b, o + n, none⟩ (x n)
theorem Row.setN {w : World} {b : Nat} {T : TypeId} {N : Nat} {g : Nat → Value} (h : Row w b T N g) (o : Nat) (x : Nat → Value) (n : Nat) : Row (setN w b o x n) b T N (fun q => if o ≤ q ∧ q < o + n then x (q - o) else g q) := by
  induction n with
  | zero => exact h.ext (fun i _ => by rw [if_neg (by omega)])
  | succ n ih =>
    refine (ih.set (o + n) (x n)).ext (fun i _ => ?_)
    by_cases e : i = o + n
    · subst e; rw [upd_at, if_pos ⟨by omega, by omega⟩]; congr 1; omega
    · rw [upd_ne _ _ e]
      by_cases e2 : o ≤ i ∧ i < o + n
      · rw [if_pos e2, if_pos (by omega)]
      · rw [if_neg e2, if_neg (by omega)]
theorem Only.setN (w : World) (b o : Nat) (x : Nat → Value) (n : Nat) : Only [b] w (setN w b o x n) := by
  induction n with
  | zero => exact Only.refl _ _
  | succ n ih => exact ih.set b _ _ (.inl (by simp))
theorem Row.of_block {w : World} {b : Nat} {T : TypeId} {xs : Array Value} (h : w.heap[b]? = some (.cells xs T (0, 0))) : Row w b T xs.size (fun i => xs[i]!) := ⟨xs, h, Nat.le_refl _, fun i hi => by simp [hi]⟩
theorem news_at {w : World} {n : Nat} (hn : w.heap.size = n) (xs : List Value) (T : TypeId) : ∀ j u, xs[j]? = some u → (w.alloc (.cells xs.toArray T)).cell? ((⟨n, 0, none⟩ : Addr).add j) = some u := by
  subst hn
  intro j u hu
  have hadd : (⟨w.heap.size, 0, none⟩ : Addr).add j = ⟨w.heap.size, j, none⟩ := by unfold Addr.add; split <;> simp_all
  rw [hadd, cell_of_row _ _ j xs.toArray T (0, 0) (heap_alloc_new w _)]
  simpa using hu
/-- What an append leaves of the rest. -/
theorem Only.grown {w0 w w' : World} {v : Value} {e : TypeId} {size n : Nat} {xs : List Value} (O : Only [] w0 w) (hW : w.ownsRow w0.heap.size e size v n xs) (hg : w.grownBy w' v.ownBlock) : Only [] w0 w' :=
  ⟨hg.os.trans O.os, hg.tape.trans O.tape, hg.output.trans O.output, Nat.le_trans O.size hg.size, fun i hi _ => by
    refine (hg.block i (Nat.lt_of_lt_of_le hi O.size) ?_).trans (O.block i hi (by simp))
    intro h
    have := (hW.lt i h.symm).1
    omega⟩
/-- An append into rows of another type leaves a row as it was. -/
theorem Row.grown {w w' : World} {v : Value} {e T : TypeId} {base size n k p : Nat} {xs : List Value} {f : Nat → Value} (r : Row w p T k f) (hW : w.ownsRow base e size v n xs) (hT : T ≠ e) (hg : w.grownBy w' v.ownBlock) : Row w' p T k f := by
  have hl := r.lt
  obtain ⟨ys, hy, hn, hf⟩ := r
  refine ⟨ys, (hg.block p hl ?_).trans hy, hn, hf⟩
  intro h
  rcases hW.2 with ⟨rfl, _⟩ | ⟨g, cap, cur, rfl, _, hgg, _⟩
  · simp [Value.ownBlock] at h
  · simp [Value.ownBlock] at h
    subst h
    rw [hy] at hgg
    simp at hgg
    exact hT hgg.2
theorem Row.elems {w : World} {b B : Nat} {T : TypeId} {n s : Nat} {f : Nat → Value} (r : Row w b T (n * s) f) (hb : b < B) : Elems w B (some ⟨b, 0, none⟩) n s f := fun _ => ⟨b, 0, rfl, hb, fun i hi => by rw [Nat.zero_add]; exact r.cell hi⟩
theorem rowsAt {w : World} {base e size n : Nat} {r : Value} {xs : List Value} (h : w.ownsRow base e size r n xs) : ∃ ra rc, r = .slice ra n rc ∧ (0 < n → ∃ g, ra = some ⟨g, 0, none⟩ ∧ ∀ q u, xs[q]? = some u → w.cell? ⟨g, q, none⟩ = some u) := by
  have hc := @World.ownsRow.cells _ _ _ _ _ _ _ h
  rcases h.2 with ⟨rfl, h0⟩ | ⟨g, cap, cur, rfl, _⟩
  · subst h0; exact ⟨none, 0, rfl, fun h => by omega⟩
  · refine ⟨_, _, rfl, fun _ => ⟨g, rfl, fun q u hu => ?_⟩⟩
    have h1 := hc (g := g) rfl q u hu
    have e : (⟨g, 0, none⟩ : Addr).add q = ⟨g, q, none⟩ := by unfold Addr.add; split <;> simp_all
    rwa [e] at h1

/-! ### the arguments as plain data -/
def bytes (s : Nat → Int) : Nat → Value := fun j => .int .u8 (s j)
/-- A slice of chunks: where it lies, its texts, its sizes. -/
structure Ch where
  a : Option Addr
  (n c : Nat)
  T : Nat → ByteArray
  sa : Nat → Option Addr
  (sn sc : Nat → Nat)
  s : Nat → Nat → Int
def chCell (p : Ch) (q : Nat) : Value := if q % 2 = 0 then .string (p.T (q / 2)) else .slice (p.sa (q / 2)) (p.sn (q / 2)) (p.sc (q / 2))
theorem chCell0 (p : Ch) (i : Nat) : chCell p (i * 2) = .string (p.T i) := by unfold chCell; rw [if_pos (by omega), show i * 2 / 2 = i by omega]
theorem chCell1 (p : Ch) (i : Nat) : chCell p (i * 2 + 1) = .slice (p.sa i) (p.sn i) (p.sc i) := by unfold chCell; rw [if_neg (by omega), show (i * 2 + 1) / 2 = i by omega]
structure LaidC (w : World) (B : Nat) (p : Ch) : Prop where
  h : Elems w B p.a p.n 2 (chCell p)
  g : ∀ i, i < p.n → Elems w B (p.sa i) (p.sn i) 1 (bytes (p.s i))
  z : (p.n : Int) ≤ 9223372036854775807
  y : ∀ i, i < p.n → ((p.T i).size : Int) ≤ 9223372036854775807
  x : ∀ i, i < p.n → (p.sn i : Int) ≤ 9223372036854775807
theorem LaidC.up {w w' : World} {B B' : Nat} {p : Ch} (h : LaidC w B p) (O : Only [] w w') (hB : B ≤ B') : LaidC w' B' p :=
  { h with h := h.h.up O hB, g := fun i hi => (h.g i hi).up O hB }
/-- The two cells of chunk i. -/
theorem LaidC.at {w : World} {B : Nat} {p : Ch} (L : LaidC w B p) {i : Nat} (hi : i < p.n) : ∃ b o, p.a = some ⟨b, o, none⟩ ∧ w.cell? ⟨b, o + i * 2, none⟩ = some (.string (p.T i)) ∧ w.cell? ⟨b, o + i * 2 + 1, none⟩ = some (.slice (p.sa i) (p.sn i) (p.sc i)) := by
  obtain ⟨b, o, e, _, hc⟩ := L.h (by omega)
  refine ⟨b, o, e, ?_, ?_⟩
  · rw [hc (i * 2) (by omega), chCell0]
  · have h := hc (i * 2 + 1) (by omega)
    rw [show o + (i * 2 + 1) = o + i * 2 + 1 by omega] at h
    rw [h, chCell1]
theorem Try.size5 : (Try.prog.info? 5).map (·.size) = some 1 := by kernel_rfl
theorem Try.size9 : (Try.prog.info? 9).map (·.size) = some 1 := by kernel_rfl
theorem Try.size26 : (Try.prog.info? 26).map (·.size) = some 1 := by kernel_rfl
theorem Try.size43 : (Try.prog.info? 43).map (·.size) = some 2 := by kernel_rfl
theorem Try.size46 : (Try.prog.info? 46).map (·.size) = some 2 := by kernel_rfl
theorem Try.info5 : (Try.prog.info? 5).map (fun i => (i.zero, i.size, i.bytes)) = some (some (.int .u8 0), 1, 1) := by kernel_rfl
theorem Try.info9 : (Try.prog.info? 9).map (fun i => (i.zero, i.size, i.bytes)) = some (some (.string ByteArray.empty), 1, 16) := by kernel_rfl
theorem Try.info26 : (Try.prog.info? 26).map (fun i => (i.zero, i.size, i.bytes)) = some (some (.slice none 0 0), 1, 24) := by kernel_rfl
def z2 : Value := .agg #[.string ByteArray.empty, .slice none 0 0]
theorem Try.info43 : (Try.prog.info? 43).map (fun i => (i.zero, i.size, i.bytes)) = some (some z2, 2, 40) := by kernel_rfl
theorem Try.info46 : (Try.prog.info? 46).map (fun i => (i.zero, i.size, i.bytes)) = some (some z2, 2, 40) := by kernel_rfl
end Go.Proofs.Qxb6602660a
