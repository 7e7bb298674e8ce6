/-
  THE FIELDS OF A Masters VALUE AS PLAIN DATA: each slice's header (address, length, capacity) and its numbers; what "it lies in memory below block B" and "it is well formed" mean.
-/
import Derived.Test.Qxb6602564aRows
import Derived.Test.Qxb6602564aMem
namespace Go.Proofs.Qxb6602564a
open Go.RowKit
set_option linter.unusedVariables false

structure M where
  (a0 a1 a2 a3 a4 a5 a6 a8 a9 a10 a11 : Option Addr)
  (n0 c0 n1 c1 n2 c2 n3 c3 n4 c4 n5 c5 n6 c6 n8 c8 n9 c9 n10 c10 n11 c11 : Nat)
  k : Int
  (f0 f1 f2 f4 f5 f6 f3 f9 f10 f11 : Nat → Int)
  ua : Nat → Option Addr
  un : Nat → Nat
  uc : Nat → Nat
  uf : Nat → Nat → Int

/-- A slice of integers of kind k lies below block B: where it has an element it leads to cells. -/
def Has (w : World) (B : Nat) (k : IntKind) (a : Option Addr) (n : Nat) (f : Nat → Int) : Prop :=
  0 < n → ∃ b off, a = some ⟨b, off, none⟩ ∧ b < B ∧ ∀ i, i < n → w.cell? ⟨b, off + i, none⟩ = some (.int k (f i))
/-- An element's address, whatever the slice's address is spelt as. -/
theorem run_at {P : Program} (t e : TypeId) (a : Option Addr) (n c b off : Nat) (kd : IntKind) (i : Int) (hu : P.underlying t = some (.slice e)) (hs : (P.info? e).map (·.size) = some 1) (ha : a = some ⟨b, off, none⟩) (h0 : 0 ≤ i) (hi : i < n) (w : World) :
    (Instr.indexAt t (.slice a n c) (.int kd i)).run P w = .ok (.pointer (some ⟨b, off + i.toNat, none⟩)) w := by
  subst ha
  have h2 : P.elem t = e := by simp [Program.elem, hu]
  rw [run_indexAt_slice w t ⟨b, off, none⟩ n c kd i (by rw [h2]; exact hu), if_pos ⟨h0, hi⟩, h2]
  cases hq : P.info? e with
  | none => simp [hq] at hs
  | some inf =>
    have hz : inf.size = 1 := by simpa [hq] using hs
    simp [sizeOf, typeInfo, hq, hz, Addr.add]
theorem run_atN {P : Program} (t e : TypeId) (a : Option Addr) (n c b off : Nat) (kd : IntKind) (i : Nat) (hu : P.underlying t = some (.slice e)) (hs : (P.info? e).map (·.size) = some 1) (ha : a = some ⟨b, off, none⟩) (hi : i < n) (w : World) :
    (Instr.indexAt t (.slice a n c) (.int kd (i : Int))).run P w = .ok (.pointer (some ⟨b, off + i, none⟩)) w := by
  have h := run_at (P := P) t e a n c b off kd (i : Int) hu hs ha (by omega) (by omega) w
  simpa using h
theorem Try.size3 : (Try.prog.info? 3).map (·.size) = some 1 := by kernel_rfl
theorem Try.size21 : (Try.prog.info? 21).map (·.size) = some 1 := by kernel_rfl
theorem Try.size34 : (Try.prog.info? 34).map (·.size) = some 1 := by kernel_rfl
def HasU (w : World) (B : Nat) (m : M) : Prop :=
  0 < m.n8 → ∃ b off, m.a8 = some ⟨b, off, none⟩ ∧ b < B ∧ ∀ i, i < m.n8 → w.cell? ⟨b, off + i, none⟩ = some (.slice (m.ua i) (m.un i) (m.uc i))
/-- Every number of an int32 list fits an int32. -/
def Fit32 (n : Nat) (f : Nat → Int) : Prop := ∀ i, i < n → -2147483648 ≤ f i ∧ f i ≤ 2147483647

structure Laid (w : World) (B : Nat) (m : M) : Prop where
  h0 : Has w B .i32 m.a0 m.n0 m.f0
  h1 : Has w B .i32 m.a1 m.n1 m.f1
  h2 : Has w B .i32 m.a2 m.n2 m.f2
  h4 : Has w B .i32 m.a4 m.n4 m.f4
  h5 : Has w B .i32 m.a5 m.n5 m.f5
  h6 : Has w B .i32 m.a6 m.n6 m.f6
  h3 : Has w B .i64 m.a3 m.n3 m.f3
  h9 : Has w B .i64 m.a9 m.n9 m.f9
  h10 : Has w B .i64 m.a10 m.n10 m.f10
  h11 : Has w B .i64 m.a11 m.n11 m.f11
  h8 : HasU w B m
  hu : ∀ i, i < m.n8 → Has w B .i32 (m.ua i) (m.un i) (m.uf i)
  q0 : Fit32 m.n0 m.f0
  q1 : Fit32 m.n1 m.f1
  q2 : Fit32 m.n2 m.f2
  q4 : Fit32 m.n4 m.f4
  q5 : Fit32 m.n5 m.f5
  q6 : Fit32 m.n6 m.f6
  qu : ∀ i, i < m.n8 → Fit32 (m.un i) (m.uf i)
  z0 : (m.n0 : Int) ≤ 9223372036854775807
  z1 : (m.n1 : Int) ≤ 9223372036854775807
  z2 : (m.n2 : Int) ≤ 9223372036854775807
  z3 : (m.n3 : Int) ≤ 9223372036854775807
  z4 : (m.n4 : Int) ≤ 9223372036854775807
  z5 : (m.n5 : Int) ≤ 9223372036854775807
  z6 : (m.n6 : Int) ≤ 9223372036854775807
  z8 : (m.n8 : Int) ≤ 9223372036854775807
  z9 : (m.n9 : Int) ≤ 9223372036854775807
  z10 : (m.n10 : Int) ≤ 9223372036854775807
  z11 : (m.n11 : Int) ≤ 9223372036854775807
  zu : ∀ i, i < m.n8 → (m.un i : Int) ≤ 9223372036854775807

theorem Has.keep {w w' : World} {B n : Nat} {k : IntKind} {a : Option Addr} {f : Nat → Int} (h : Has w B k a n f) (hb : Below B w w') : Has w' B k a n f := fun hn => by
  obtain ⟨b, off, e, hlt, hc⟩ := h hn
  exact ⟨b, off, e, hlt, fun i hi => by rw [hb.cell (p := ⟨b, off + i, none⟩) hlt]; exact hc i hi⟩
theorem Laid.keep {w w' : World} {B : Nat} {m : M} (h : Laid w B m) (hb : Below B w w') : Laid w' B m where
  h0 := h.h0.keep hb
  h1 := h.h1.keep hb
  h2 := h.h2.keep hb
  h4 := h.h4.keep hb
  h5 := h.h5.keep hb
  h6 := h.h6.keep hb
  h3 := h.h3.keep hb
  h9 := h.h9.keep hb
  h10 := h.h10.keep hb
  h11 := h.h11.keep hb
  h8 := fun hn => by
    obtain ⟨b, off, e, hlt, hc⟩ := h.h8 hn
    exact ⟨b, off, e, hlt, fun i hi => by rw [hb.cell (p := ⟨b, off + i, none⟩) hlt]; exact hc i hi⟩
  hu := fun i hi => (h.hu i hi).keep hb
  q0 := h.q0
  q1 := h.q1
  q2 := h.q2
  q4 := h.q4
  q5 := h.q5
  q6 := h.q6
  qu := h.qu
  z0 := h.z0
  z1 := h.z1
  z2 := h.z2
  z3 := h.z3
  z4 := h.z4
  z5 := h.z5
  z6 := h.z6
  z8 := h.z8
  z9 := h.z9
  z10 := h.z10
  z11 := h.z11
  zu := h.zu

/-- How many units the first j nodes list. -/
def sumU (m : M) : Nat → Nat
  | 0 => 0
  | j + 1 => sumU m j + m.un j
/-- What mastersWellFormed finds. -/
structure WF (m : M) : Prop where
  e2 : m.n2 = m.n1
  e3 : m.n3 = m.n1
  e5 : m.n5 = m.n1 + 1
  e8 : m.n8 = m.n9
  ek : 0 < m.n0 → m.n6 % m.n0 = 0 ∧ ((m.n6 / m.n0 : Nat) : Int) = m.k
  un : ∀ x, x < m.n1 → 0 ≤ m.f1 x ∧ m.f1 x < m.n9
  ur : ∀ x, x < m.n1 → 0 ≤ m.f2 x ∧ m.f2 x < m.n10 ∧ m.f2 x < m.n11
  uh : ∀ x, x < m.n1 → 0 ≤ m.f5 x ∧ m.f5 x ≤ m.f5 (x + 1) ∧ m.f5 (x + 1) ≤ m.n4
  ho : ∀ i, i < m.n4 → 0 ≤ m.f4 i ∧ m.f4 i < m.n0
  re : ∀ i, i < m.n6 → 0 ≤ m.f6 i ∧ m.f6 i < m.n1
  uu : ∀ n, n < m.n9 → ∀ i, i < m.un n → 0 ≤ m.uf n i ∧ m.uf n i < m.n1
/-- The sizes that mastersFit lets by. -/
structure Small (m : M) : Prop where
  s0 : m.n0 ≤ 262144
  s1 : m.n1 ≤ 262144
  s2 : m.n2 ≤ 262144
  s3 : m.n3 ≤ 262144
  s4 : m.n4 ≤ 262144
  s5 : m.n5 ≤ 262144
  s6 : m.n6 ≤ 262144
  s8 : m.n8 ≤ 262144
  s9 : m.n9 ≤ 262144
  s10 : m.n10 ≤ 262144
  s11 : m.n11 ≤ 262144
  su : sumU m m.n8 ≤ 262144
end Go.Proofs.Qxb6602564a
