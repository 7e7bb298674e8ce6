/-
  THE PLAIN SEARCH: what each step keeps; an answer stays the answer.
-/
import Derived.Test.Qxb6602564aLyState
namespace Go.Proofs.Qxb6602564a
open Go.RowKit
set_option linter.unusedVariables false

def Keeps (x : Nat) (s t : Stt) : Prop := t.rc x = true ∧ t.dep x = s.dep x
theorem Keeps.reach {s : Stt} {x : Nat} (u : Nat) (hx : s.rc x = true) (hu : s.rc u = false) : Keeps x s (s.reach x u) := by
  have hxu : x ≠ u := by rintro rfl; rw [hx] at hu; cases hu
  simp [Keeps, Stt.reach, hxu, hx]
theorem Keeps.trans {x : Nat} {s t r : Stt} (h : Keeps x s t) (g : Keeps x t r) : Keeps x s r := ⟨g.1, g.2.trans h.2⟩
theorem Keeps.hub {m : M} {x n : Nat} {s : Stt} (hx : s.rc x = true) : ∀ i, Keeps x s (hubS m x n s i)
  | 0 => ⟨hx, rfl⟩
  | i + 1 => by
    have ih := Keeps.hub (m := m) (n := n) hx i
    simp only [hubS]
    split
    · rename_i h
      simp only [Bool.and_eq_true, Bool.not_eq_true'] at h
      exact ih.trans (Keeps.reach _ ih.1 h.2)
    · exact ih
theorem Keeps.repl {m : M} {lo hi : Int} {x v : Nat} {s t : Stt} (hx : s.rc x = true) (h : replS m lo hi x v s = .inl t) : Keeps x s t := by
  unfold replS at h
  split at h
  · injection h with h; subst h; exact ⟨hx, rfl⟩
  · simp only at h
    split at h
    · cases h
    · have h1 : Keeps x s (if s.rc v then s else s.reach x v) := by
        by_cases hv : s.rc v = true
        · rw [if_pos hv]; exact ⟨hx, rfl⟩
        · rw [if_neg hv]; exact Keeps.reach _ hx (by simpa using hv)
      generalize (if s.rc v then s else s.reach x v) = s1 at h h1
      split at h
      · injection h with h
        subst h
        refine Keeps.trans (t := { s1 with op := fun j => if j = (m.f1 v).toNat then true else s1.op j }) h1 (Keeps.hub ?_ _)
        exact h1.1
      · injection h with h; subst h; exact h1
theorem Keeps.repls {m : M} {lo hi : Int} {x p : Nat} {s : Stt} (hx : s.rc x = true) : ∀ j t, replsS m lo hi x p s j = .inl t → Keeps x s t
  | 0, t, h => by simp only [replsS] at h; injection h with h; subst h; exact ⟨hx, rfl⟩
  | j + 1, t, h => by
    simp only [replsS] at h
    split at h
    · cases h
    · rename_i t' ht
      have ih := Keeps.repls hx j t' ht
      exact ih.trans (Keeps.repl ih.1 h)
theorem Keeps.parts {m : M} {lo hi : Int} {x : Nat} {s : Stt} (hx : s.rc x = true) : ∀ i t, partsS m lo hi x s i = .inl t → Keeps x s t
  | 0, t, h => by simp only [partsS] at h; injection h with h; subst h; exact ⟨hx, rfl⟩
  | i + 1, t, h => by
    simp only [partsS] at h
    split at h
    · cases h
    · rename_i t' ht
      have ih := Keeps.parts hx i t' ht
      split at h
      · exact ih.trans (Keeps.repls ih.1 _ _ h)
      · injection h with h; subst h; exact ih
theorem repls_hit {m : M} {lo hi : Int} {x p : Nat} {s : Stt} {a : Int} {j : Nat} (h : replsS m lo hi x p s j = .inr a) : ∀ k, j ≤ k → replsS m lo hi x p s k = .inr a
  | 0, hk => by rwa [show j = 0 by omega] at h
  | k + 1, hk => by
    by_cases e : j = k + 1
    · rwa [e] at h
    · simp only [replsS, repls_hit h k (by omega)]
theorem parts_hit {m : M} {lo hi : Int} {x : Nat} {s : Stt} {a : Int} {j : Nat} (h : partsS m lo hi x s j = .inr a) : ∀ k, j ≤ k → partsS m lo hi x s k = .inr a
  | 0, hk => by rwa [show j = 0 by omega] at h
  | k + 1, hk => by
    by_cases e : j = k + 1
    · rwa [e] at h
    · simp only [partsS, parts_hit h k (by omega)]
theorem head_hit {m : M} {lo hi : Int} {s : Stt} {a : Int} {j : Nat} (h : headS m lo hi s j = .inr a) : ∀ k, j ≤ k → headS m lo hi s k = .inr a
  | 0, hk => by rwa [show j = 0 by omega] at h
  | k + 1, hk => by
    by_cases e : j = k + 1
    · rwa [e] at h
    · simp only [headS, head_hit h k (by omega)]
theorem head_end {m : M} {lo hi : Int} {s t : Stt} {j : Nat} (h : headS m lo hi s j = .inl t) (hj : t.q.length ≤ j) : ∀ k, j ≤ k → headS m lo hi s k = .inl t
  | 0, hk => by rwa [show j = 0 by omega] at h
  | k + 1, hk => by
    by_cases e : j = k + 1
    · rwa [e] at h
    · simp only [headS, head_end h hj k (by omega)]
      rw [dif_neg (by omega)]
theorem head_next {m : M} {lo hi : Int} {s t : Stt} {h : Nat} (e : headS m lo hi s h = .inl t) (hq : h < t.q.length) : headS m lo hi s (h + 1) = partsS m lo hi t.q[h] t ((m.f5 (t.q[h] + 1)).toNat - (m.f5 t.q[h]).toNat) := by
  simp only [headS, e, hq, dif_pos]
theorem ans_hit {m : M} {flo fhi lo hi a : Int} {h : Nat} (e : headS m lo hi (start m flo fhi) h = .inr a) (hk : h ≤ m.n1 + sumU m m.n9) : ans m flo fhi lo hi = a := by
  simp only [ans, head_hit e _ hk]
theorem ans_end {m : M} {flo fhi lo hi : Int} {h : Nat} {t : Stt} (e : headS m lo hi (start m flo fhi) h = .inl t) (hj : t.q.length ≤ h) (hk : h ≤ m.n1 + sumU m m.n9) : ans m flo fhi lo hi = 0 := by
  simp only [ans, head_end e hj _ hk]
end Go.Proofs.Qxb6602564a
