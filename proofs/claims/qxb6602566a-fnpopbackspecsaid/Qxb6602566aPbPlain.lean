/-
  THE PLAIN LAW OF popBack: what is left is all but the last entry, and the shape holds.
-/
import Derived.Test.Qxb6602566aPbState
namespace Go.Proofs.Qxb6602566a
open Go.RowKit
set_option linter.unusedVariables false

theorem kk_one {k : Nat} {m : Nat → Nat} {n : Int} (h : n = 1) : kk k m n = 0 := by rw [kk, if_pos h]
theorem kk_last {t : Nat} {m : Nat → Nat} {n : Int} (h : n ≠ 1) (hm : m t = 1) : kk (t + 1) m n = t := by rw [kk, if_neg h, if_pos (show m (t + 1 - 1) = 1 from hm)]; rfl
theorem kk_more {t : Nat} {m : Nat → Nat} {n : Int} (h : n ≠ 1) (hm : m t ≠ 1) : kk (t + 1) m n = t + 1 := by rw [kk, if_neg h, if_neg (show ¬ m (t + 1 - 1) = 1 from hm)]
theorem mm_lt {t i : Nat} (m : Nat → Nat) (h : i < t) : mm (t + 1) m i = m i := by rw [mm, if_neg (by omega)]
theorem mm_last (t : Nat) (m : Nat → Nat) : mm (t + 1) m t = m t - 1 := by rw [mm, if_pos rfl]
theorem ents_succ (x : Nat → Nat → Nat → Int) (i : Nat) {j : Nat} (h : 1 ≤ j) : ents x i j = ents x i (j - 1) ++ ent x i (j - 1) := by
  obtain ⟨j', rfl⟩ : ∃ j', j = j' + 1 := ⟨j - 1, by omega⟩
  rfl
/-- All but the last entry. -/
theorem flat_last (m : Nat → Nat) (x : Nat → Nat → Nat → Int) {t : Nat} {n : Int} (hn : n ≠ 1) (hm : 1 ≤ m t) : flat m x (t + 1) = flat (mm (t + 1) m) x (kk (t + 1) m n) ++ ent x t (m t - 1) := by
  show flat m x t ++ ents x t (m t) = _
  rw [ents_succ x t hm, ← List.append_assoc]
  congr 1
  by_cases h1 : m t = 1
  · rw [kk_last hn h1, flat_congr (m := m) (m' := mm (t + 1) m) (fun i hi => mm_lt m hi), h1]; simp [ents]
  · rw [kk_more hn h1]
    show _ = flat (mm (t + 1) m) x t ++ ents x t (mm (t + 1) m t)
    rw [flat_congr (m := m) (m' := mm (t + 1) m) (fun i hi => mm_lt m hi), mm_last]
theorem flat_end (m : Nat → Nat) (x : Nat → Nat → Nat → Int) {t : Nat} (hm : 1 ≤ m t) {q : Nat} (hq : q < 5) : (flat m x (t + 1))[(tot m (t + 1) - 1) * 5 + q]? = (ent x t (m t - 1))[q]? := by
  show (flat m x t ++ ents x t (m t))[_]? = _
  have h1 := flat_length m x t
  have h2 : tot m (t + 1) = tot m t + m t := rfl
  have h3 := ents_length x t (m t - 1)
  rw [ents_succ x t hm, ← List.append_assoc, List.getElem?_append_right (by rw [List.length_append]; omega)]
  congr 1
  rw [List.length_append]; omega
theorem tot_last (m : Nat → Nat) {t : Nat} {n : Int} (hn : n ≠ 1) (hm : 1 ≤ m t) : tot (mm (t + 1) m) (kk (t + 1) m n) + 1 = tot m (t + 1) := by
  have h := congrArg List.length (flat_last m (fun _ _ _ => 0) hn hm)
  rw [flat_length, List.length_append, flat_length] at h
  simp [ent] at h
  omega
theorem flat_prefix (m : Nat → Nat) (x : Nat → Nat → Nat → Int) {t : Nat} {n : Int} (hn : n ≠ 1) (hm : 1 ≤ m t) {y : Nat} (hy : y < tot (mm (t + 1) m) (kk (t + 1) m n) * 5) : (flat (mm (t + 1) m) x (kk (t + 1) m n))[y]? = (flat m x (t + 1))[y]? := by
  rw [flat_last m x hn hm, List.getElem?_append_left (by rw [flat_length]; exact hy)]
theorem ents_int (x : Nat → Nat → Nat → Int) (i j : Nat) : ∀ u ∈ ents x i j, ∃ z, u = .int .u32 z := by
  induction j with
  | zero => intro u hu; cases hu
  | succ j ih =>
    intro u hu
    rcases List.mem_append.1 hu with h | h
    · exact ih u h
    · simp [ent] at h
      rcases h with rfl | rfl | rfl | rfl | rfl <;> exact ⟨_, rfl⟩
theorem flat_int (m : Nat → Nat) (x : Nat → Nat → Nat → Int) (k : Nat) : ∀ u ∈ flat m x k, ∃ z, u = .int .u32 z := by
  induction k with
  | zero => intro u hu; cases hu
  | succ k ih =>
    intro u hu
    rcases List.mem_append.1 hu with h | h
    · exact ih u h
    · exact ents_int x k (m k) u h
theorem flat_at (m : Nat → Nat) (x : Nat → Nat → Nat → Int) (k : Nat) : ∃ y : Nat → Nat → Int, ∀ i, i < tot m k → ∀ q, q < 5 → (flat m x k)[i * 5 + q]? = some (.int .u32 (y i q)) := by
  refine ⟨fun i q => match (flat m x k)[i * 5 + q]? with | some (.int _ z) => z | _ => 0, fun i hi q hq => ?_⟩
  have hl : i * 5 + q < (flat m x k).length := by rw [flat_length]; omega
  obtain ⟨z, hz⟩ := flat_int m x k _ (List.getElem_mem hl)
  have hz' : (flat m x k)[i * 5 + q]? = some (.int .u32 z) := by rw [List.getElem?_eq_getElem hl, hz]
  simp only [hz']
/-- The shape is kept. -/
theorem shape_pop {t : Nat} {m : Nat → Nat} {h n : Int} (H : Shape (t + 1) m h n) (hn : n ≠ 1) (hn0 : 1 ≤ n) : Shape (kk (t + 1) m n) (mm (t + 1) m) h (n - 1) := by
  rcases H with ⟨h0, _⟩ | ⟨_, h1, h2, h3, h4, h5⟩
  · omega
  · have hm := (h1 t (by omega)).1
    have ht := tot_last m (t := t) hn hm
    have hT : (tot m (t + 1) : Int) = (tot m t : Int) + m t := by show ((tot m t + m t : Nat) : Int) = _; omega
    refine .inr ?_
    by_cases e : m t = 1
    · rw [kk_last hn e] at ht ⊢
      have t0 : 0 < t := by
        by_cases e0 : t = 0
        · subst e0
          have : tot m 0 = 0 := rfl
          omega
        · omega
      refine ⟨t0, fun i hi => by rw [mm_lt m hi]; exact h1 i (by omega), fun i hi => by rw [mm_lt m (by omega)]; exact h2 i (by omega), h3, by rw [mm_lt m t0]; exact h4, by omega⟩
    · rw [kk_more hn e] at ht ⊢
      refine ⟨by omega, fun i hi => ?_, fun i hi => by rw [mm_lt m (by omega)]; exact h2 i (by omega), h3, ?_, by omega⟩
      · by_cases e1 : i = t
        · subst e1; rw [mm_last]; have := h1 i (by omega); omega
        · rw [mm_lt m (by omega)]; exact h1 i (by omega)
      · by_cases e1 : t = 0
        · subst e1
          rw [mm_last]
          have : tot m 0 = 0 := rfl
          omega
        · rw [mm_lt m (by omega)]; exact h4
theorem kk_le (t : Nat) (m : Nat → Nat) (n : Int) : kk (t + 1) m n ≤ t + 1 := by unfold kk; split; omega; split <;> omega
theorem mm_le (k : Nat) (m : Nat → Nat) (i : Nat) : mm k m i ≤ m i := by unfold mm; split <;> omega
theorem neq5 (y : Nat → Int) (w : World) : (binOp .neq 60 (.agg #[.int .u32 (y 0), .int .u32 (y 1), .int .u32 (y 2), .int .u32 (y 3), .int .u32 (y 4)]) (.agg #[.int .u32 (y 0), .int .u32 (y 1), .int .u32 (y 2), .int .u32 (y 3), .int .u32 (y 4)])).run Try.prog w = .ok (.bool false) w := by
  obtain ⟨i, hi, _, hs, _⟩ := info_parts (show (Try.prog.info? 45).map (fun i => (i.zero, i.size, i.bytes)) = some (some (.int .u32 0), 1, 4) by kernel_rfl)
  rw [run_neq_struct, run_equalIn_array (d := 9999) w (e := 45) (n := 5) (i := i) _ _ Try.underlying60 hi]
  have hc : Try.prog.cellsOf 45 = 1 := by kernel_rfl
  rw [hc]
  have hpk : Try.prog.plainKey 45 = true := by kernel_rfl
  have hp : ∀ (xs : Array Value) (j : Nat) (v : Value), xs[j]? = some v → (part 45 xs (j * 1)).run Try.prog w = .ok v w := fun xs j v hv => run_part_plain w hpk (by rw [Nat.mul_one]; exact hv)
  have he : ∀ (d : Nat) (z : Int), (Op.equalIn (d + 1) 45 (.int .u32 z) (.int .u32 z)).run Try.prog w = .ok true w := fun d z => by
    rw [run_equalIn_int w d 45 .u32 .u32 z z Try.underlying45]; simp
  have hr : List.range 5 = [0, 1, 2, 3, 4] := by decide
  rw [hr]
  have s0 : (part 45 #[.int .u32 (y 0), .int .u32 (y 1), .int .u32 (y 2), .int .u32 (y 3), .int .u32 (y 4)] (0 * 1)).run Try.prog w = .ok (.int .u32 (y 0)) w := hp _ 0 _ rfl
  have s1 : (part 45 #[.int .u32 (y 0), .int .u32 (y 1), .int .u32 (y 2), .int .u32 (y 3), .int .u32 (y 4)] (1 * 1)).run Try.prog w = .ok (.int .u32 (y 1)) w := hp _ 1 _ rfl
  have s2 : (part 45 #[.int .u32 (y 0), .int .u32 (y 1), .int .u32 (y 2), .int .u32 (y 3), .int .u32 (y 4)] (2 * 1)).run Try.prog w = .ok (.int .u32 (y 2)) w := hp _ 2 _ rfl
  have s3 : (part 45 #[.int .u32 (y 0), .int .u32 (y 1), .int .u32 (y 2), .int .u32 (y 3), .int .u32 (y 4)] (3 * 1)).run Try.prog w = .ok (.int .u32 (y 3)) w := hp _ 3 _ rfl
  have s4 : (part 45 #[.int .u32 (y 0), .int .u32 (y 1), .int .u32 (y 2), .int .u32 (y 3), .int .u32 (y 4)] (4 * 1)).run Try.prog w = .ok (.int .u32 (y 4)) w := hp _ 4 _ rfl
  have key : ∀ d, (Op.eqItems (d + 1) 45 1 #[.int .u32 (y 0), .int .u32 (y 1), .int .u32 (y 2), .int .u32 (y 3), .int .u32 (y 4)] #[.int .u32 (y 0), .int .u32 (y 1), .int .u32 (y 2), .int .u32 (y 3), .int .u32 (y 4)] [0, 1, 2, 3, 4]).run Try.prog w = .ok true w := fun d => by
    simp only [Op.eqItems, Sem.run_bind, s0, s1, s2, s3, s4, Result.andThen_ok, he, Bool.not_true, Bool.false_eq_true, if_false]
    rfl
  have k := key 9998
  generalize h9 : (9998 + 1 : Nat) = D at k
  have h9' : D = 9999 := h9.symm
  subst h9'
  rw [k]
  rfl
end Go.Proofs.Qxb6602566a
