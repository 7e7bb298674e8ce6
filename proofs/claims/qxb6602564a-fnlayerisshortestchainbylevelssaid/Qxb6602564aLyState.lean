/-
  THE SEARCH IN MEMORY AND THE PLAIN SEARCH: how they stand to each other.
-/
import Derived.Test.Qxb6602564aLyPlain
import Derived.Test.Qxb6602564aLyRst58
namespace Go.Proofs.Qxb6602564a
open Go.RowKit
set_option linter.unusedVariables false

/-- How many of the first n units hold. -/
def cntB (f : Nat → Bool) : Nat → Nat
  | 0 => 0
  | n + 1 => cntB f n + (if f n then 1 else 0)
theorem cntB_le (f : Nat → Bool) (n : Nat) : cntB f n ≤ n := by
  induction n with
  | zero => simp [cntB]
  | succ n ih => simp only [cntB]; split <;> omega
theorem cntB_set_out (f : Nat → Bool) (u : Nat) : ∀ n, n ≤ u → cntB (fun j => if j = u then true else f j) n = cntB f n
  | 0, _ => rfl
  | n + 1, h => by
    simp only [cntB]
    have e : ¬ n = u := by omega
    rw [cntB_set_out f u n (by omega)]; simp [e]
theorem cntB_set (f : Nat → Bool) (u : Nat) (hu : f u = false) : ∀ n, u < n → cntB (fun j => if j = u then true else f j) n = cntB f n + 1
  | 0, h => by omega
  | n + 1, h => by
    simp only [cntB]
    by_cases e : n = u
    · subst e; rw [cntB_set_out f n n (by omega)]; simp [hu]
    · rw [cntB_set f u hu n (by omega)]; simp only [e, if_false]; omega
/-- The search before its first step. -/
def start (m : M) (lo hi : Int) : Stt := { q := givers m lo hi m.n9, dep := fun _ => 0, rc := fun u => decide (u ∈ givers m lo hi m.n9), op := fun _ => false }
/-- layer's answer. -/
def ans (m : M) (flo fhi tlo thi : Int) : Int :=
  match headS m tlo thi (start m flo fhi) (m.n1 + sumU m m.n9) with
  | .inr a => a
  | .inl _ => 0
/-- What holds of every state of the search. -/
structure Fine (m : M) (s : Stt) : Prop where
  inq : ∀ u, u ∈ s.q → s.rc u = true ∧ u < m.n1
  dep : ∀ u, s.rc u = true → 0 ≤ s.dep u ∧ s.dep u ≤ s.q.length
  len : s.q.length ≤ sumU m m.n9 + cntB s.rc m.n1
theorem Fine.length {m : M} {s : Stt} (h : Fine m s) : s.q.length ≤ m.n1 + sumU m m.n9 := by
  have := h.len
  have := cntB_le s.rc m.n1
  omega
theorem Fine.reach {m : M} {s : Stt} (h : Fine m s) {x u : Nat} (hx : s.rc x = true) (hu : u < m.n1) (hr : s.rc u = false) : Fine m (s.reach x u) := by
  refine ⟨fun j hj => ?_, fun j hj => ?_, ?_⟩
  · simp only [Stt.reach, List.mem_append, List.mem_singleton] at hj ⊢
    by_cases e : j = u
    · subst e; simp [hu]
    · rcases hj with hj | hj
      · simp only [e, if_false]; exact h.inq j hj
      · exact absurd hj e
  · simp only [Stt.reach, List.length_append, List.length_singleton] at hj ⊢
    have hd := h.dep x hx
    by_cases e : j = u
    · rw [if_pos e]; omega
    · simp only [e, if_false] at hj ⊢; have := h.dep j hj; omega
  · simp only [Stt.reach, List.length_append, List.length_singleton]
    rw [cntB_set s.rc u hr m.n1 hu]
    have := h.len
    omega
theorem Fine.open {m : M} {s : Stt} (h : Fine m s) (o : Nat → Bool) : Fine m { s with op := o } := ⟨h.inq, h.dep, h.len⟩
theorem givU_len (m : M) (n : Nat) (l : List Nat) : ∀ i, (givU m n l i).length ≤ l.length + i
  | 0 => by simp [givU]
  | i + 1 => by
    have := givU_len m n l i
    simp only [givU]
    split
    · simp; omega
    · omega
theorem givers_len (m : M) (lo hi : Int) : ∀ n, (givers m lo hi n).length ≤ sumU m n
  | 0 => by simp [givers]
  | n + 1 => by
    have h1 := givers_len m lo hi n
    have h2 := givU_len m n (givers m lo hi n) (m.un n)
    simp only [givers, sumU]
    split <;> omega
theorem givU_lt {m : M} (hW : WF m) {n : Nat} (hn : n < m.n9) {l : List Nat} (hl : ∀ u, u ∈ l → u < m.n1) : ∀ i, i ≤ m.un n → ∀ u, u ∈ givU m n l i → u < m.n1
  | 0, _, u, hu => hl u hu
  | i + 1, hi, u, hu => by
    simp only [givU] at hu
    split at hu
    · rw [List.mem_append] at hu
      rcases hu with hu | hu
      · exact givU_lt hW hn hl i (by omega) u hu
      · simp at hu; have := hW.uu n hn i (by omega); omega
    · exact givU_lt hW hn hl i (by omega) u hu
theorem givers_lt {m : M} (hW : WF m) (lo hi : Int) : ∀ n, n ≤ m.n9 → ∀ u, u ∈ givers m lo hi n → u < m.n1
  | 0, _, u, hu => by simp [givers] at hu
  | n + 1, hn, u, hu => by
    simp only [givers] at hu
    split at hu
    · exact givU_lt hW (by omega) (givers_lt hW lo hi n (by omega)) _ (Nat.le_refl _) u hu
    · exact givers_lt hW lo hi n (by omega) u hu
theorem start_fine {m : M} (hW : WF m) (lo hi : Int) : Fine m (start m lo hi) := by
  refine ⟨fun u hu => ⟨by simpa [start] using hu, givers_lt hW lo hi m.n9 (Nat.le_refl _) u hu⟩, fun u _ => ⟨by simp [start], by simp [start]⟩, ?_⟩
  have := givers_len m lo hi m.n9
  simp only [start]; omega
/-- The numbers in memory and the plain state. -/
structure Rel (m : M) (N : Int) (d i o : Nat → Int) (s : Stt) : Prop where
  rc : ∀ u, u < m.n1 → (i u == N) = s.rc u
  il : ∀ u, u < m.n1 → i u ≤ N
  dp : ∀ u, u < m.n1 → s.rc u = true → d u = s.dep u
  op : ∀ n, n < m.n9 → (o n == N) = s.op n
  ol : ∀ n, n < m.n9 → o n ≤ N
theorem Rel.reach {m : M} {N : Int} {d i o : Nat → Int} {s : Stt} (h : Rel m N d i o s) {x u : Nat} (hx : x < m.n1) (hr : s.rc x = true) : Rel m N (fun j => if j = u then d x + 1 else d j) (fun j => if j = u then N else i j) o (s.reach x u) := by
  refine ⟨fun j hj => ?_, fun j hj => ?_, fun j hj hrc => ?_, h.op, h.ol⟩
  · simp only [Stt.reach]
    by_cases e : j = u
    · simp [e]
    · simp only [e, if_false]; exact h.rc j hj
  · by_cases e : j = u
    · simp [e]
    · simp only [e, if_false]; exact h.il j hj
  · simp only [Stt.reach] at hrc ⊢
    by_cases e : j = u
    · simp only [e, if_true]; rw [h.dp x hx hr]
    · simp only [e, if_false] at hrc ⊢; exact h.dp j hj hrc
theorem Rel.open {m : M} {N : Int} {d i o : Nat → Int} {s : Stt} (h : Rel m N d i o s) (n : Nat) : Rel m N d i (fun j => if j = n then N else o j) { s with op := fun j => if j = n then true else s.op j } := by
  refine ⟨h.rc, h.il, h.dp, fun j hj => ?_, fun j hj => ?_⟩
  · by_cases e : j = n
    · simp [e]
    · simp only [e, if_false]; exact h.op j hj
  · by_cases e : j = n
    · simp [e]
    · simp only [e, if_false]; exact h.ol j hj
theorem Rel.start {m : M} {N : Int} {d i o : Nat → Int} (hi : ∀ u, u < m.n1 → i u ≤ N) (ho : ∀ n, n < m.n9 → o n ≤ N) (lo hi' : Int) : Rel m (N + 1) (dAt d (givers m lo hi' m.n9) (givers m lo hi' m.n9).length) (iAt (N + 1) i (givers m lo hi' m.n9) (givers m lo hi' m.n9).length) o (start m lo hi') := by
  refine ⟨fun u hu => ?_, fun u hu => ?_, fun u hu hr => ?_, fun n hn => ?_, fun n hn => ?_⟩
  · have := hi u hu
    simp only [iAt, Go.Proofs.Qxb6602564a.start, List.take_length]
    split
    · simp [*]
    · rename_i h; simp [h]; omega
  · have := hi u hu
    simp only [iAt]; split <;> omega
  · simp only [Go.Proofs.Qxb6602564a.start, decide_eq_true_eq] at hr
    simp [dAt, Go.Proofs.Qxb6602564a.start, hr]
  · have := ho n hn
    simp only [Go.Proofs.Qxb6602564a.start, beq_eq_false_iff_ne]; omega
  · have := ho n hn; omega
/-- What stands fast while a search runs: the blocks, the givers, the number of the search, the span that it looks for, the world before. -/
structure Cx where
  (mb sb fb vb db ib hb base B0 : Nat)
  giv : Value
  ng : Nat
  xg : List Value
  N : Int
  bt : Nat
  (tlo thi : Int)
  w0 : World
structure Cx.ok (c : Cx) : Prop where
  l0 : c.B0 ≤ c.sb ∧ c.B0 ≤ c.fb ∧ c.B0 ≤ c.vb ∧ c.B0 ≤ c.db ∧ c.B0 ≤ c.ib ∧ c.B0 ≤ c.hb ∧ c.B0 ≤ c.mb
  lb : c.B0 ≤ c.base
  hi : c.fb < c.base ∧ c.db < c.base ∧ c.ib < c.base ∧ c.vb < c.base ∧ c.mb < c.base ∧ c.sb < c.base ∧ c.hb < c.base
  bt : c.base ≤ c.bt
def pairv (lo hi : Int) : Nat → Value
  | 0 => .int .i64 lo
  | _ => .int .i64 hi
/-- The search in memory at the plain state s. -/
def LS (m : M) (c : Cx) (s : Stt) (w : World) : Prop :=
  ∃ q d i o, MS w m c.mb c.sb c.fb c.vb c.db c.ib c.hb q c.giv c.N d i o ∧ w.ownsRow c.base 3 1 q s.q.length (qv s.q) ∧ Rel m c.N d i o s ∧ Fine m s ∧ w.ownsRow c.base 3 1 c.giv c.ng c.xg ∧ Apart c.giv q ∧ Row w c.bt 59 2 (pairv c.tlo c.thi) ∧ Below c.B0 c.w0 w ∧ c.base ≤ w.heap.size
theorem MS.only {w w' : World} {m : M} {mb sb fb vb db ib hb : Nat} {q giv : Value} {N : Int} {d i o : Nat → Int} (S : MS w m mb sb fb vb db ib hb q giv N d i o) (O : Only [] w w') : MS w' m mb sb fb vb db ib hb q giv N d i o := by
  obtain ⟨rm, rs, ⟨gf, rf⟩, ⟨gv, rv⟩, rd, ri, ⟨gh, rh, hh⟩, fd, fi, di⟩ := S
  exact ⟨rm.keep O (by simp), rs.keep O (by simp), ⟨gf, rf.keep O (by simp)⟩, ⟨gv, rv.keep O (by simp)⟩, rd.keep O (by simp), ri.keep O (by simp), ⟨gh, rh.keep O (by simp), hh⟩, fd, fi, di⟩
theorem LS.only {m : M} {c : Cx} {s : Stt} {w w' : World} (h : LS m c s w) (ok : c.ok) (O : Only [] w w') : LS m c s w' := by
  obtain ⟨q, d, i, o, S, hq, R, F, hg, hap, hb, hB, hs⟩ := h
  have := ok.lb
  have := O.size
  exact ⟨q, d, i, o, S.only O, ownsRow_keep hq O (by simp), R, F, ownsRow_keep hg O (by simp), hap, hb.keep O (by simp), hB.trans (O.below (by omega) (by simp)), by omega⟩
/-- What one reach does to the search. -/
def StepP (m : M) (c : Cx) (s : Stt) (w : World) (e : Ending) (w' : World) : Prop :=
  e = .returned (.tuple #[]) ∧ LS m c s w' ∧ ∀ bx n f, c.base ≤ bx → Row w bx 77 n f → Row w' bx 77 n f
theorem reachLS {m : M} {c : Cx} (ok : c.ok) (hS : Small m) (e8 : m.n8 = m.n9) {s : Stt} {x u : Nat} {pv tv : Int} {w : World} (h : LS m c s w) (hx : x < m.n1) (hxr : s.rc x = true) (hu : u < m.n1) (hr : s.rc u = false) :
    Calls Try.prog 61 #[.pointer (some ⟨c.sb, 0, none⟩), .int .i64 (x : Int), .int .i64 (u : Int), .agg #[.int .i32 pv, .int .i32 tv]] w fun e w' => StepP m c (s.reach x u) w e w' := by
  obtain ⟨q, d, i, o, S, hq, R, F, hg, hap, hb, hB, hs⟩ := h
  have hxu : x ≠ u := by rintro rfl; rw [hxr] at hr; cases hr
  obtain ⟨⟨l1, l2, l3, l4, l5, l6, l7⟩, lb, ⟨z1, z2, z3, z4, z5, z6, z7⟩, lt⟩ := ok
  have hlen := F.length
  have hs1 := hS.s1
  have hsu := hS.su
  rw [e8] at hsu
  have hdx := F.dep x hxr
  have hd := R.dp x hx hxr
  refine (reach61 m c.B0 c.base c.mb c.sb c.fb c.vb c.db c.ib c.hb q c.giv c.N d i o s.q x u pv tv w S hq hx hu hxu ⟨l1, l2, l3, l4, l5⟩ lb hs (by rw [hd]; omega) (by omega) hs1 ⟨z1, z2, z3, z4, z5, z6, z7⟩).mono ?_
  rintro e w' ⟨q', rfl, S', hq', B', K⟩
  have hk := K.owns hg (by simp; exact ⟨z6, z1, z4, z2, z3⟩) hap
  refine ⟨rfl, ⟨q', _, _, o, S', ?_, R.reach hx hxr, F.reach hxr hu hr, hk.1, hk.2, K.row hb ?_ (ownsRow_not hq hb (by decide)), hB.trans B', by have := B'.size; omega⟩, fun bx n f hbx r => K.row r ?_ (ownsRow_not hq r (by decide))⟩
  · simpa [Stt.reach] using hq'
  · simp only [List.mem_cons, List.not_mem_nil, or_false, not_or]; omega
  · simp only [List.mem_cons, List.not_mem_nil, or_false, not_or]; omega
/-- A hub is opened. -/
theorem LS.open {m : M} {c : Cx} {s : Stt} {w : World} (h : LS m c s w) (ok : c.ok) {n : Nat} (hn : n < m.n9) (v1 v2 : Value) :
    LS m c { s with op := fun j => if j = n then true else s.op j } (((w.setCell ⟨c.hb, n * 3, none⟩ (.int .i64 c.N)).setCell ⟨c.hb, n * 3 + 1, none⟩ v1).setCell ⟨c.hb, n * 3 + 2, none⟩ v2) := by
  obtain ⟨q, d, i, o, S, hq, R, F, hg, hap, hb, hB, hs⟩ := h
  have O : Only [c.hb] w (((w.setCell ⟨c.hb, n * 3, none⟩ (.int .i64 c.N)).setCell ⟨c.hb, n * 3 + 1, none⟩ v1).setCell ⟨c.hb, n * 3 + 2, none⟩ v2) := ((((Only.refl _ _).set c.hb _ _ (.inl (by simp))).set c.hb _ _ (.inl (by simp))).set c.hb _ _ (.inl (by simp)))
  obtain ⟨rm, rs, ⟨gf, rf⟩, ⟨gv, rv⟩, rd, ri, ⟨gh, rh, hh⟩, fd, fi, di⟩ := S
  obtain ⟨⟨l1, l2, l3, l4, l5, l6, l7⟩, lb, ⟨z1, z2, z3, z4, z5, z6, z7⟩, lt⟩ := ok
  have hsz := O.size
  have hS : ∀ k, k ∈ [c.hb] → k < c.base := by simp; exact z7
  refine ⟨q, d, i, fun j => if j = n then c.N else o j, ⟨rm.keep O (by simp; exact rm.ne rh (by decide)), rs.keep O (by simp; exact rs.ne rh (by decide)), ⟨gf, rf.keep O (by simp; exact rf.ne rh (by decide))⟩, ⟨gv, rv.keep O (by simp; exact rv.ne rh (by decide))⟩, rd.keep O (by simp; exact rd.ne rh (by decide)), ri.keep O (by simp; exact ri.ne rh (by decide)), ⟨_, ((rh.set _ _).set _ _).set _ _, fun j hj => ?_⟩, fd, fi, di⟩, ownsRow_keep hq O hS, R.open n, F.open _, ownsRow_keep hg O hS, hap, hb.keep O (by simp; omega), hB.trans (O.below (by omega) (by simp; omega)), by omega⟩
  rw [upd_ne _ _ (by omega), upd_ne _ _ (by omega)]
  by_cases e : j = n
  · subst e; rw [upd_at]; simp
  · rw [upd_ne _ _ (by omega), hh j hj]; simp [e]
end Go.Proofs.Qxb6602564a
