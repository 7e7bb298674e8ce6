/-
  zzB1Masters: a fresh masters value; its five makes and two boxes come in whatever order.
-/
import Derived.Test.Qxb6602564aLyMast
import Derived.Test.Qxb6602564aLyReach
import Derived.Test.Qxb6602564aLyOrd
namespace Go.Proofs.Qxb6602564a
open Go.RowKit
set_option linter.unusedVariables false
def z77 : Value := .agg #[.int .i32 0, .int .i32 0]
def z81 : Value := .agg #[.int .i64 0, .int .i64 0, .int .i64 0]
theorem Try.inf77 : (Try.prog.info? 77).map (fun i => (i.zero, i.size, i.bytes)) = some (some z77, 2, 8) := by kernel_rfl
theorem Try.inf81 : (Try.prog.info? 81).map (fun i => (i.zero, i.size, i.bytes)) = some (some z81, 3, 24) := by kernel_rfl
/-- Row b of zeros, made since w0. -/
def Zr (w0 w : World) (T : TypeId) (n : Nat) (z : Value) (b : Nat) : Prop := w0.heap.size ≤ b ∧ Row w b T n (fun _ => z)
theorem Zr.up {w0 w w' : World} {T : TypeId} {n : Nat} {z : Value} {b : Nat} (h : Zr w0 w T n z b) (O : Only [] w w') : Zr w0 w' T n z b := ⟨h.1, h.2.keep O (by simp)⟩
/-- The four rows of a search. -/
structure Four (m : M) (w0 w : World) (fb vb db ib : Nat) : Prop where
  f : Zr w0 w 3 m.n1 (.int .i64 0) fb
  v : Zr w0 w 77 (m.n1 * 2) (.int .i32 0) vb
  d : Zr w0 w 3 m.n1 (.int .i64 0) db
  i : Zr w0 w 3 m.n1 (.int .i64 0) ib
  fd : fb ≠ db
  fi : fb ≠ ib
  di : db ≠ ib
theorem Four.up {m : M} {w0 w w' : World} {fb vb db ib : Nat} (h : Four m w0 w fb vb db ib) (O : Only [] w w') : Four m w0 w' fb vb db ib := ⟨h.f.up O, h.v.up O, h.d.up O, h.i.up O, h.fd, h.fi, h.di⟩
def Sx (m : M) (w0 w : World) (sb fb vb db ib : Nat) : Prop := w0.heap.size ≤ sb ∧ Row w sb 69 6 (scell m.n1 fb vb db ib (.slice none 0 0) 0) ∧ Four m w0 w fb vb db ib
theorem Sx.up {m : M} {w0 w w' : World} {sb fb vb db ib : Nat} (h : Sx m w0 w sb fb vb db ib) (O : Only [] w w') : Sx m w0 w' sb fb vb db ib := ⟨h.1, h.2.1.keep O (by simp), h.2.2.up O⟩
/-- What is known of the value v of operation j. -/
def D51 (m : M) (w0 : World) (j : Nat) (v : Value) (w : World) : Prop :=
  match j with
  | 0 => v = .slice m.a0 m.n0 m.c0
  | 1 => v = .slice m.a1 m.n1 m.c1
  | 2 => v = .slice m.a2 m.n2 m.c2
  | 3 => v = .slice m.a3 m.n3 m.c3
  | 4 => v = .slice m.a4 m.n4 m.c4
  | 5 => v = .slice m.a5 m.n5 m.c5
  | 6 => v = .slice m.a6 m.n6 m.c6
  | 7 => v = .int .i64 m.k
  | 8 => v = .slice m.a8 m.n8 m.c8
  | 9 => v = .slice m.a9 m.n9 m.c9
  | 10 => v = .slice m.a10 m.n10 m.c10
  | 11 => v = .slice m.a11 m.n11 m.c11
  | 12 => v = .slice m.a1 m.n1 m.c1
  | 15 => v = .slice m.a1 m.n1 m.c1
  | 18 => v = .slice m.a1 m.n1 m.c1
  | 21 => v = .slice m.a1 m.n1 m.c1
  | 13 => v = .int .i64 (m.n1 : Int)
  | 16 => v = .int .i64 (m.n1 : Int)
  | 19 => v = .int .i64 (m.n1 : Int)
  | 22 => v = .int .i64 (m.n1 : Int)
  | 14 => ∃ b, v = .slice (some ⟨b, 0, none⟩) m.n1 m.n1 ∧ Zr w0 w 3 m.n1 (.int .i64 0) b
  | 20 => ∃ b, v = .slice (some ⟨b, 0, none⟩) m.n1 m.n1 ∧ Zr w0 w 3 m.n1 (.int .i64 0) b
  | 23 => ∃ b, v = .slice (some ⟨b, 0, none⟩) m.n1 m.n1 ∧ Zr w0 w 3 m.n1 (.int .i64 0) b
  | 17 => ∃ b, v = .slice (some ⟨b, 0, none⟩) m.n1 m.n1 ∧ Zr w0 w 77 (m.n1 * 2) (.int .i32 0) b
  | 24 => ∃ fb vb db ib, v = .agg #[Value.slice none 0 0, .slice (some ⟨fb, 0, none⟩) m.n1 m.n1, .slice (some ⟨vb, 0, none⟩) m.n1 m.n1, .slice (some ⟨db, 0, none⟩) m.n1 m.n1, .slice (some ⟨ib, 0, none⟩) m.n1 m.n1, .int .i64 0] ∧ Four m w0 w fb vb db ib
  | 25 => ∃ sb fb vb db ib, v = .pointer (some ⟨sb, 0, none⟩) ∧ Sx m w0 w sb fb vb db ib
  | 26 => v = .slice m.a9 m.n9 m.c9
  | 27 => v = .int .i64 (m.n9 : Int)
  | 28 => ∃ b, v = .slice (some ⟨b, 0, none⟩) m.n9 m.n9 ∧ Zr w0 w 81 (m.n9 * 3) (.int .i64 0) b
  | 29 => ∃ sb fb vb db ib hb, v = .agg #[Value.slice m.a0 m.n0 m.c0, .slice m.a1 m.n1 m.c1, .slice m.a2 m.n2 m.c2, .slice m.a3 m.n3 m.c3, .slice none 0 0, .slice m.a4 m.n4 m.c4, .slice m.a5 m.n5 m.c5, .slice m.a6 m.n6 m.c6, .int .i64 m.k, .slice m.a8 m.n8 m.c8, .slice m.a9 m.n9 m.c9, .slice m.a10 m.n10 m.c10, .slice m.a11 m.n11 m.c11, .int .i64 0, .slice none 0 0, .slice none 0 0, .slice none 0 0, .slice none 0 0, .pointer (some ⟨sb, 0, none⟩), .slice none 0 0, .slice none 0 0, .slice (some ⟨hb, 0, none⟩) m.n9 m.n9] ∧ Sx m w0 w sb fb vb db ib ∧ Zr w0 w 81 (m.n9 * 3) (.int .i64 0) hb
  | _ => ∃ mb sb fb vb db ib hb, v = .pointer (some ⟨mb, 0, none⟩) ∧ w0.heap.size ≤ mb ∧ Row w mb 73 22 (mcell m sb hb (.slice none 0 0)) ∧ Sx m w0 w sb fb vb db ib ∧ Zr w0 w 81 (m.n9 * 3) (.int .i64 0) hb
theorem D51.up {m : M} {w0 w w' : World} {j : Nat} {v : Value} (h : D51 m w0 j v w) (O : Only [] w w') : D51 m w0 j v w' := by
  unfold D51 at h ⊢
  split at h
  all_goals first
    | exact h
    | (obtain ⟨b, e, z⟩ := h; exact ⟨b, e, z.up O⟩)
    | (obtain ⟨fb, vb, db, ib, e, z⟩ := h; exact ⟨fb, vb, db, ib, e, z.up O⟩)
    | (obtain ⟨sb, fb, vb, db, ib, e, z⟩ := h; exact ⟨sb, fb, vb, db, ib, e, z.up O⟩)
    | (obtain ⟨sb, fb, vb, db, ib, hb, e, z, y⟩ := h; exact ⟨sb, fb, vb, db, ib, hb, e, z.up O, y.up O⟩)
    | (obtain ⟨mb, sb, fb, vb, db, ib, hb, e, s, r, z, y⟩ := h; exact ⟨mb, sb, fb, vb, db, ib, hb, e, s, r.keep O (by simp), z.up O, y.up O⟩)
def FreshP (m : M) (w : World) (e : Ending) (w' : World) : Prop :=
  ∃ mb sb fb vb db ib hb, e = .returned (.pointer (some ⟨mb, 0, none⟩)) ∧ MS w' m mb sb fb vb db ib hb (.slice none 0 0) (.slice none 0 0) 0 (fun _ => 0) (fun _ => 0) (fun _ => 0) ∧ Only [] w w' ∧ (w.heap.size ≤ mb ∧ w.heap.size ≤ sb ∧ w.heap.size ≤ fb ∧ w.heap.size ≤ vb ∧ w.heap.size ≤ db ∧ w.heap.size ≤ ib ∧ w.heap.size ≤ hb)
end Go.Proofs.Qxb6602564a
