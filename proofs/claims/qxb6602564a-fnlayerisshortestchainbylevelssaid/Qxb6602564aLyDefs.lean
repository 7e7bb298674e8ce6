/-
  THE masters VALUE THAT layer WORKS ON, AND ITS search: where they lie; the small functions that read them.
-/
import Derived.Test.Qxb6602564aMs
namespace Go.Proofs.Qxb6602564a
open Go.RowKit
set_option linter.unusedVariables false

def mcell (m : M) (sb hb : Nat) (giv : Value) : Nat → Value
  | 0 => .slice m.a0 m.n0 m.c0
  | 1 => .slice m.a1 m.n1 m.c1
  | 2 => .slice m.a2 m.n2 m.c2
  | 3 => .slice m.a3 m.n3 m.c3
  | 5 => .slice m.a4 m.n4 m.c4
  | 6 => .slice m.a5 m.n5 m.c5
  | 7 => .slice m.a6 m.n6 m.c6
  | 8 => .int .i64 m.k
  | 9 => .slice m.a8 m.n8 m.c8
  | 10 => .slice m.a9 m.n9 m.c9
  | 11 => .slice m.a10 m.n10 m.c10
  | 12 => .slice m.a11 m.n11 m.c11
  | 13 => .int .i64 0
  | 18 => .pointer (some ⟨sb, 0, none⟩)
  | 19 => giv
  | 21 => .slice (some ⟨hb, 0, none⟩) m.n9 m.n9
  | _ => .slice none 0 0
def scell (n1 fb vb db ib : Nat) (q : Value) (N : Int) : Nat → Value
  | 0 => q
  | 1 => .slice (some ⟨fb, 0, none⟩) n1 n1
  | 2 => .slice (some ⟨vb, 0, none⟩) n1 n1
  | 3 => .slice (some ⟨db, 0, none⟩) n1 n1
  | 4 => .slice (some ⟨ib, 0, none⟩) n1 n1
  | _ => .int .i64 N
def nums (f : Nat → Int) : Nat → Value := fun i => .int .i64 (f i)
/-- A masters value at block mb with its search; N: the number of the search; d, i: depth and in; o: when each hub was opened. -/
structure MS (w : World) (m : M) (mb sb fb vb db ib hb : Nat) (q giv : Value) (N : Int) (d i o : Nat → Int) : Prop where
  rm : Row w mb 73 22 (mcell m sb hb giv)
  rs : Row w sb 69 6 (scell m.n1 fb vb db ib q N)
  rf : ∃ g, Row w fb 3 m.n1 g
  rv : ∃ g, Row w vb 77 (m.n1 * 2) g
  rd : Row w db 3 m.n1 (nums d)
  ri : Row w ib 3 m.n1 (nums i)
  rh : ∃ g, Row w hb 81 (m.n9 * 3) g ∧ ∀ n, n < m.n9 → g (n * 3) = .int .i64 (o n)
  fd : fb ≠ db
  fi : fb ≠ ib
  di : db ≠ ib
/-- canGive, canTake. -/
def give (m : M) (u : Nat) : Bool := decide (m.f10 (m.f2 u).toNat < m.f3 u)
def take (m : M) (u : Nat) : Bool := decide (m.f3 u < m.f11 (m.f2 u).toNat)
def hasP (lo hi x : Int) : Bool := decide (lo ≤ x) && decide (x ≤ hi)
def RetV (v : Bool) (w : World) (e : Ending) (w' : World) : Prop := e = .returned (.bool v) ∧ Only [] w w'
theorem has56 (lo hi x : Int) (w : World) : Calls Try.prog 56 #[.agg #[.int .i64 lo, .int .i64 hi], .int .i64 x] w fun e w' => RetV (hasP lo hi x) w e w' := by
  have O := Only.alloc [] w (.cells #[.int .i64 lo, .int .i64 hi] 59)
  by_cases h1 : lo ≤ x
  · by_cases h2 : x ≤ hi
    · have e : hasP lo hi x = true := by simp [hasP, h1, h2]
      rw [e]
      clear e
      go_enter Try.func56, Try.ntmps56
      go_wp2
      go_ret
      exact ⟨rfl, O⟩
    · have e : hasP lo hi x = false := by simp [hasP]; omega
      rw [e]
      clear e
      go_enter Try.func56, Try.ntmps56
      go_wp2
      go_ret
      exact ⟨rfl, O⟩
  · have e : hasP lo hi x = false := by simp [hasP]; omega
    rw [e]
    clear e
    go_enter Try.func56, Try.ntmps56
    go_wp2
    go_ret
    exact ⟨rfl, O⟩
set_option maxHeartbeats 2000000 in
theorem canGive57 (m : M) (mb sb hb : Nat) (giv : Value) (u B : Nat) (w : World) (R : Row w mb 73 22 (mcell m sb hb giv)) (hL : Laid w B m) (hW : WF m) (hu : u < m.n1) :
    Calls Try.prog 57 #[.pointer (some ⟨mb, 0, none⟩), .int .i64 (u : Int)] w fun e w' => RetV (give m u) w e w' := by
  have c3 : w.cell? ⟨mb, 3, none⟩ = some (.slice m.a3 m.n3 m.c3) := R.cell (i := 3) (by omega)
  have c11 : w.cell? ⟨mb, 11, none⟩ = some (.slice m.a10 m.n10 m.c10) := R.cell (i := 11) (by omega)
  have c2 : w.cell? ⟨mb, 2, none⟩ = some (.slice m.a2 m.n2 m.c2) := R.cell (i := 2) (by omega)
  have ur := hW.ur u hu
  obtain ⟨b3, o3, e3, _, k3⟩ := hL.h3 (by have := hW.e3; omega)
  have i3 := run_atN (P := Try.prog) 26 3 m.a3 m.n3 m.c3 b3 o3 .i64 u Try.underlying26 Try.size3 e3 (by have := hW.e3; omega)
  have d3 := k3 u (by have := hW.e3; omega)
  obtain ⟨b2, o2, e2, _, k2⟩ := hL.h2 (by have := hW.e2; omega)
  have i2 := run_atN (P := Try.prog) 34 21 m.a2 m.n2 m.c2 b2 o2 .i64 u Try.underlying34 Try.size21 e2 (by have := hW.e2; omega)
  have d2 := k2 u (by have := hW.e2; omega)
  obtain ⟨b1, o1, e1, _, k1⟩ := hL.h10 (by omega)
  have i1 := run_at (P := Try.prog) 26 3 m.a10 m.n10 m.c10 b1 o1 .i32 (m.f2 u) Try.underlying26 Try.size3 e1 ur.1 ur.2.1
  have d1 := k1 (m.f2 u).toNat (by omega)
  have hb : decide (m.f3 u > m.f10 (m.f2 u).toNat) = give m u := rfl
  clear hL hW R e1 e2 e3 k1 k2 k3 ur
  go_enter Try.func57, Try.ntmps57
  go_wp2_with fail
  go_quiet (fail)
  go_wp2
  go_ret
  exact ⟨rfl, Only.drewN _ _ _⟩
set_option maxHeartbeats 2000000 in
theorem canTake59 (m : M) (mb sb hb : Nat) (giv : Value) (u B : Nat) (w : World) (R : Row w mb 73 22 (mcell m sb hb giv)) (hL : Laid w B m) (hW : WF m) (hu : u < m.n1) :
    Calls Try.prog 59 #[.pointer (some ⟨mb, 0, none⟩), .int .i64 (u : Int)] w fun e w' => RetV (take m u) w e w' := by
  have c3 : w.cell? ⟨mb, 3, none⟩ = some (.slice m.a3 m.n3 m.c3) := R.cell (i := 3) (by omega)
  have c12 : w.cell? ⟨mb, 12, none⟩ = some (.slice m.a11 m.n11 m.c11) := R.cell (i := 12) (by omega)
  have c2 : w.cell? ⟨mb, 2, none⟩ = some (.slice m.a2 m.n2 m.c2) := R.cell (i := 2) (by omega)
  have ur := hW.ur u hu
  obtain ⟨b3, o3, e3, _, k3⟩ := hL.h3 (by have := hW.e3; omega)
  have i3 := run_atN (P := Try.prog) 26 3 m.a3 m.n3 m.c3 b3 o3 .i64 u Try.underlying26 Try.size3 e3 (by have := hW.e3; omega)
  have d3 := k3 u (by have := hW.e3; omega)
  obtain ⟨b2, o2, e2, _, k2⟩ := hL.h2 (by have := hW.e2; omega)
  have i2 := run_atN (P := Try.prog) 34 21 m.a2 m.n2 m.c2 b2 o2 .i64 u Try.underlying34 Try.size21 e2 (by have := hW.e2; omega)
  have d2 := k2 u (by have := hW.e2; omega)
  obtain ⟨b1, o1, e1, _, k1⟩ := hL.h11 (by omega)
  have i1 := run_at (P := Try.prog) 26 3 m.a11 m.n11 m.c11 b1 o1 .i32 (m.f2 u) Try.underlying26 Try.size3 e1 ur.1 ur.2.2
  have d1 := k1 (m.f2 u).toNat (by omega)
  have hb : decide (m.f3 u < m.f11 (m.f2 u).toNat) = take m u := rfl
  clear hL hW R e1 e2 e3 k1 k2 k3 ur
  go_enter Try.func59, Try.ntmps59
  go_wp2_with fail
  go_quiet (fail)
  go_wp2
  go_ret
  exact ⟨rfl, Only.drewN _ _ _⟩
def rchd (N : Int) (i : Nat → Int) (u : Nat) : Bool := i u == N
set_option maxHeartbeats 2000000 in
theorem reached60 (m : M) (mb sb fb vb db ib hb : Nat) (q giv : Value) (N : Int) (d i o : Nat → Int) (u : Nat) (w : World) (S : MS w m mb sb fb vb db ib hb q giv N d i o) (hu : u < m.n1) :
    Calls Try.prog 60 #[.pointer (some ⟨sb, 0, none⟩), .int .i64 (u : Int)] w fun e w' => RetV (rchd N i u) w e w' := by
  have c4 : w.cell? ⟨sb, 4, none⟩ = some (.slice (some ⟨ib, 0, none⟩) m.n1 m.n1) := S.rs.cell (i := 4) (by omega)
  have c5 : w.cell? ⟨sb, 5, none⟩ = some (.int .i64 N) := S.rs.cell (i := 5) (by omega)
  have d1 : w.cell? ⟨ib, u, none⟩ = some (.int .i64 (i u)) := S.ri.cell hu
  have hui : (u : Int) < (m.n1 : Int) := by omega
  have hb : (i u == N) = rchd N i u := rfl
  clear S
  go_enter Try.func60, Try.ntmps60
  go_wp2_with fail
  go_quiet (fail)
  go_wp2
  go_ret
  exact ⟨rfl, Only.drewN _ _ _⟩
end Go.Proofs.Qxb6602564a
