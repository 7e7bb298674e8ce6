/-
  THE ARGUMENTS OF THE adminRows LAW AS PLAIN DATA, and what "they lie in memory below block B" means.
-/
import Derived.Test.Qxb6602566aRows
import Derived.Test.Qxb6602566aMem
namespace Go.Proofs.Qxb6602566a
open Go.RowKit
set_option linter.unusedVariables false

structure A where
  (ver hea : ByteArray)
  st : Int
  (a3 a4 a5 a6 a7 a8 : Option Addr)
  (n3 c3 n4 c4 n5 c5 n6 c6 n7 c7 n8 c8 : Nat)
  name : Nat → ByteArray
  pau : Nat → Bool
  num : Nat → Nat → Int
  (b6 b7 b8 : Nat → Option Addr)
  (m6 m7 m8 d6 d7 d8 : Nat → Nat)
  cname : Nat → Nat → ByteArray
  cpau : Nat → Nat → Bool
  cnum : Nat → Nat → Nat → Int

/-- A slice of n elements of s cells each lies below block B: where it has an element it leads to cells. -/
def Elems (w : World) (B : Nat) (a : Option Addr) (n s : Nat) (f : Nat → Value) : Prop :=
  0 < n → ∃ b off, a = some ⟨b, off, none⟩ ∧ b < B ∧ ∀ i, i < n * s → w.cell? ⟨b, off + i, none⟩ = some (f i)
theorem Elems.keep {w w' : World} {B n s : Nat} {a : Option Addr} {f : Nat → Value} (h : Elems w B a n s f) (hb : Below B w w') : Elems w' B a n s f := fun hn => by
  obtain ⟨b, off, e, hlt, hc⟩ := h hn
  exact ⟨b, off, e, hlt, fun i hi => by rw [hb.cell (p := ⟨b, off + i, none⟩) hlt]; exact hc i hi⟩
theorem Elems.up {w w' : World} {B B' n s : Nat} {a : Option Addr} {f : Nat → Value} (h : Elems w B a n s f) (ho : Only [] w w') (hB : B ≤ B') : Elems w' B' a n s f := fun hn => by
  obtain ⟨b, off, e, hlt, hc⟩ := h hn
  exact ⟨b, off, e, by omega, fun i hi => ho.cell (by simp) (hc i hi)⟩

/-- An element's address, whatever the slice's address is spelt as. -/
theorem run_at {P : Program} (t e : TypeId) (a : Option Addr) (n c b off s : Nat) (kd : IntKind) (i : Nat) (hu : P.underlying t = some (.slice e)) (hs : (P.info? e).map (·.size) = some s) (ha : a = some ⟨b, off, none⟩) (hi : i < n) (w : World) :
    (Instr.indexAt t (.slice a n c) (.int kd (i : Int))).run P w = .ok (.pointer (some ⟨b, off + i * s, none⟩)) w := by
  subst ha
  have h2 : P.elem t = e := by simp [Program.elem, hu]
  rw [run_indexAt_slice w t ⟨b, off, none⟩ n c kd i (by rw [h2]; exact hu), if_pos ⟨by omega, by omega⟩, h2]
  cases hq : P.info? e with
  | none => simp [hq] at hs
  | some inf =>
    have hz : inf.size = s := by simpa [hq] using hs
    simp [sizeOf, typeInfo, hq, hz, Addr.add]
theorem run_at1 {P : Program} (t e : TypeId) (a : Option Addr) (n c b off : Nat) (kd : IntKind) (i : Nat) (hu : P.underlying t = some (.slice e)) (hs : (P.info? e).map (·.size) = some 1) (ha : a = some ⟨b, off, none⟩) (hi : i < n) (w : World) :
    (Instr.indexAt t (.slice a n c) (.int kd (i : Int))).run P w = .ok (.pointer (some ⟨b, off + i, none⟩)) w := by
  have h := run_at (P := P) t e a n c b off 1 kd i hu hs ha hi w
  simpa using h
theorem Try.size9 : (Try.prog.info? 9).map (·.size) = some 1 := by kernel_rfl
theorem Try.size4 : (Try.prog.info? 4).map (·.size) = some 1 := by kernel_rfl
theorem Try.size22 : (Try.prog.info? 22).map (·.size) = some 1 := by kernel_rfl
theorem Try.size23 : (Try.prog.info? 23).map (·.size) = some 1 := by kernel_rfl
theorem Try.size42 : (Try.prog.info? 42).map (·.size) = some 1 := by kernel_rfl
theorem Try.size38 : (Try.prog.info? 38).map (·.size) = some 4 := by kernel_rfl
theorem Try.size41 : (Try.prog.info? 41).map (·.size) = some 7 := by kernel_rfl

structure Laid (w : World) (B : Nat) (m : A) : Prop where
  h3 : Elems w B m.a3 m.n3 1 (fun i => .string (m.name i))
  h4 : Elems w B m.a4 m.n4 1 (fun i => .bool (m.pau i))
  h5 : Elems w B m.a5 m.n5 4 (fun i => .int .i64 (m.num (i / 4) (i % 4)))
  h6 : Elems w B m.a6 m.n6 1 (fun i => .slice (m.b6 i) (m.m6 i) (m.d6 i))
  h7 : Elems w B m.a7 m.n7 1 (fun i => .slice (m.b7 i) (m.m7 i) (m.d7 i))
  h8 : Elems w B m.a8 m.n8 1 (fun i => .slice (m.b8 i) (m.m8 i) (m.d8 i))
  g6 : ∀ i, i < m.n6 → Elems w B (m.b6 i) (m.m6 i) 1 (fun j => .string (m.cname i j))
  g7 : ∀ i, i < m.n7 → Elems w B (m.b7 i) (m.m7 i) 1 (fun j => .bool (m.cpau i j))
  g8 : ∀ i, i < m.n8 → Elems w B (m.b8 i) (m.m8 i) 7 (fun j => .int .i64 (m.cnum i (j / 7) (j % 7)))
  zv : (m.ver.size : Int) ≤ 9223372036854775807
  zh : (m.hea.size : Int) ≤ 9223372036854775807
  z3 : (m.n3 : Int) ≤ 9223372036854775807
  z4 : (m.n4 : Int) ≤ 9223372036854775807
  z5 : (m.n5 : Int) ≤ 9223372036854775807
  z6 : (m.n6 : Int) ≤ 9223372036854775807
  z7 : (m.n7 : Int) ≤ 9223372036854775807
  z8 : (m.n8 : Int) ≤ 9223372036854775807
  y3 : ∀ i, i < m.n3 → ((m.name i).size : Int) ≤ 9223372036854775807
  y6 : ∀ i, i < m.n6 → (m.m6 i : Int) ≤ 9223372036854775807
  y7 : ∀ i, i < m.n7 → (m.m7 i : Int) ≤ 9223372036854775807
  y8 : ∀ i, i < m.n8 → (m.m8 i : Int) ≤ 9223372036854775807
  x6 : ∀ i, i < m.n6 → ∀ j, j < m.m6 i → ((m.cname i j).size : Int) ≤ 9223372036854775807

theorem Laid.keep {w w' : World} {B : Nat} {m : A} (h : Laid w B m) (hb : Below B w w') : Laid w' B m :=
  { h with h3 := h.h3.keep hb, h4 := h.h4.keep hb, h5 := h.h5.keep hb, h6 := h.h6.keep hb, h7 := h.h7.keep hb, h8 := h.h8.keep hb, g6 := fun i hi => (h.g6 i hi).keep hb, g7 := fun i hi => (h.g7 i hi).keep hb, g8 := fun i hi => (h.g8 i hi).keep hb }
end Go.Proofs.Qxb6602566a
