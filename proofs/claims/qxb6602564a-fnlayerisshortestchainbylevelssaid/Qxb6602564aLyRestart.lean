/-
  restart: a new search from the sources.
-/
import Derived.Test.Qxb6602564aLyReach
import Derived.Deep.AppendLies
namespace Go.Proofs.Qxb6602564a
open Go.RowKit
set_option linter.unusedVariables false

theorem run_cut0 {P : Program} (t e : TypeId) (a : Option Addr) (n c s : Nat) (hu : P.underlying t = some (.slice e)) (hs : (P.info? e).map (·.size) = some s) (w : World) :
    (Instr.slice t (.slice a n c) none (some (.int .i64 0)) none).run P w = .ok (.slice a 0 c) w := by
  have h2 : P.elem t = e := by simp [Program.elem, hu]
  rw [run_slice_h (P := P) (w := w) (t := t) (a := a) (len := n) (cap := c) (kh := .i64) (h := 0) (by rw [h2]; exact hu) (by omega) (by omega), h2]
  cases hq : P.info? e with
  | none => simp [hq] at hs
  | some inf =>
    have e2 : ∀ x : Addr, x.add 0 = x := fun x => by cases x; rfl
    cases a <;> simp [sizeOf, typeInfo, hq, sliced, e2]
theorem ownsRow_cut0 {w : World} {base : Nat} {e : TypeId} {size : Nat} {a : Option Addr} {n c : Nat} {xs : List Value} (h : w.ownsRow base e size (.slice a n c) n xs) : w.ownsRow base e size (.slice a 0 c) 0 [] := by
  refine ⟨by simp, ?_⟩
  rcases h.2 with ⟨e1, h0⟩ | ⟨g, cap, cur, e1, hg, hh, hn, hcap, hs, _⟩
  · cases e1; exact .inl ⟨rfl, rfl⟩
  · cases e1; exact .inr ⟨g, c, cur, rfl, hg, hh, by omega, hcap, hs, by simp⟩
/-- What an owned value looks like. -/
theorem ownsRow_slice {w : World} {base : Nat} {e : TypeId} {size : Nat} {v : Value} {n : Nat} {xs : List Value} (h : w.ownsRow base e size v n xs) : ∃ a c, v = .slice a n c ∧ (0 < n → ∃ g, a = some ⟨g, 0, none⟩ ∧ base ≤ g ∧ ∀ j u, xs[j]? = some u → w.cell? ⟨g, j, none⟩ = some u) := by
  have hc := @World.ownsRow.cells _ _ _ _ _ _ _ h
  rcases h.2 with ⟨rfl, h0⟩ | ⟨g, cap, cur, rfl, hg, _⟩
  · subst h0; exact ⟨none, 0, rfl, fun h => by omega⟩
  · refine ⟨_, _, rfl, fun _ => ⟨g, rfl, hg, fun j u hu => ?_⟩⟩
    have h1 := hc (g := g) rfl j u hu
    have e : (⟨g, 0, none⟩ : Addr).add j = ⟨g, j, none⟩ := by unfold Addr.add; split <;> simp_all
    rwa [e] at h1
/-- depth and in behind the first k sources. -/
def dAt (d : Nat → Int) (l : List Nat) (k : Nat) : Nat → Int := fun u => if u ∈ l.take k then 0 else d u
def iAt (N : Int) (i : Nat → Int) (l : List Nat) (k : Nat) : Nat → Int := fun u => if u ∈ l.take k then N else i u
theorem take_mem {l : List Nat} {k : Nat} (hk : k < l.length) (u : Nat) : u ∈ l.take (k + 1) ↔ u ∈ l.take k ∨ u = l[k] := by
  rw [List.take_succ_eq_append_getElem hk, List.mem_append]
  simp
theorem dAt_next {d : Nat → Int} {l : List Nat} {k : Nat} (hk : k < l.length) (j : Nat) : (if j = l[k] then 0 else dAt d l k j) = dAt d l (k + 1) j := by
  unfold dAt
  by_cases h : j = l[k]
  · rw [if_pos h, if_pos ((take_mem hk j).2 (.inr h))]
  · rw [if_neg h]
    by_cases h2 : j ∈ l.take k
    · rw [if_pos h2, if_pos ((take_mem hk j).2 (.inl h2))]
    · rw [if_neg h2, if_neg (fun h3 => by rcases (take_mem hk j).1 h3 with h4 | h4; exact h2 h4; exact h h4)]
theorem iAt_next {N : Int} {i : Nat → Int} {l : List Nat} {k : Nat} (hk : k < l.length) (j : Nat) : (if j = l[k] then N else iAt N i l k j) = iAt N i l (k + 1) j := by
  unfold iAt
  by_cases h : j = l[k]
  · rw [if_pos h, if_pos ((take_mem hk j).2 (.inr h))]
  · rw [if_neg h]
    by_cases h2 : j ∈ l.take k
    · rw [if_pos h2, if_pos ((take_mem hk j).2 (.inl h2))]
    · rw [if_neg h2, if_neg (fun h3 => by rcases (take_mem hk j).1 h3 with h4 | h4; exact h2 h4; exact h h4)]
def RestartP (m : M) (B0 base mb sb fb vb db ib hb : Nat) (q giv : Value) (N : Int) (d i o : Nat → Int) (gl : List Nat) (w : World) (e : Ending) (w' : World) : Prop :=
  ∃ q', e = .returned (.tuple #[]) ∧ MS w' m mb sb fb vb db ib hb q' giv (N + 1) (dAt d gl gl.length) (iAt (N + 1) i gl gl.length) o ∧ w'.ownsRow base 3 1 q' gl.length (qv gl) ∧ w'.ownsRow base 3 1 giv gl.length (qv gl) ∧ Apart giv q' ∧ Below B0 w w' ∧ Kept [sb, fb, db, ib] q q' w w'
/-- The search's row with another queue, another number. -/
theorem MS.setS {w : World} {m : M} {mb sb fb vb db ib hb : Nat} {q giv : Value} {N : Int} {d i o : Nat → Int} (S : MS w m mb sb fb vb db ib hb q giv N d i o) (j : Nat) (v q' : Value) (N' : Int) (h : ∀ k, k < 6 → upd (scell m.n1 fb vb db ib q N) j v k = scell m.n1 fb vb db ib q' N' k) : MS (w.setCell ⟨sb, j, none⟩ v) m mb sb fb vb db ib hb q' giv N' d i o := by
  obtain ⟨rm, rs, ⟨gf, rf⟩, ⟨gv, rv⟩, rd, ri, ⟨gh, rh, hh⟩, fd, fi, di⟩ := S
  exact ⟨rm.other sb _ (Ne.symm (rs.ne rm (by decide))) _, (rs.set j v).ext h, ⟨gf, rf.other sb _ (Ne.symm (rs.ne rf (by decide))) _⟩, ⟨gv, rv.other sb _ (Ne.symm (rs.ne rv (by decide))) _⟩, rd.other sb _ (Ne.symm (rs.ne rd (by decide))) _, ri.other sb _ (Ne.symm (rs.ne ri (by decide))) _, ⟨gh, rh.other sb _ (Ne.symm (rs.ne rh (by decide))) _, hh⟩, fd, fi, di⟩
theorem MS.below {w w' : World} {m : M} {mb sb fb vb db ib hb : Nat} {q giv : Value} {N : Int} {d i o : Nat → Int} (S : MS w m mb sb fb vb db ib hb q giv N d i o) {B : Nat} (b : Below B w w') (z : fb < B ∧ db < B ∧ ib < B ∧ vb < B ∧ mb < B ∧ sb < B ∧ hb < B) : MS w' m mb sb fb vb db ib hb q giv N d i o := by
  obtain ⟨rm, rs, ⟨gf, rf⟩, ⟨gv, rv⟩, rd, ri, ⟨gh, rh, hh⟩, fd, fi, di⟩ := S
  obtain ⟨z1, z2, z3, z4, z5, z6, z7⟩ := z
  exact ⟨rm.below b z5, rs.below b z6, ⟨gf, rf.below b z1⟩, ⟨gv, rv.below b z4⟩, rd.below b z2, ri.below b z3, ⟨gh, rh.below b z7, hh⟩, fd, fi, di⟩
end Go.Proofs.Qxb6602564a
