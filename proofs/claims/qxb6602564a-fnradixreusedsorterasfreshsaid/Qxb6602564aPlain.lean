/-
  THE PLAIN LAW OF ONE PASS OF A COUNTING SORT, with no Go in sight: n keys, the byte of key i is 'by i' (below 256). 'cnt i b': how many of the first i have byte b. 'below b': how many of all have a byte under b. Key i goes to place 'pos i': these places are 0 .. n - 1, each once.
-/
namespace Go.Proofs.Qxb6602564a.Count

def cnt (by' : Nat → Nat) : Nat → Nat → Nat
  | 0, _ => 0
  | i + 1, b => cnt by' i b + if by' i = b then 1 else 0
def below (by' : Nat → Nat) (n : Nat) : Nat → Nat
  | 0 => 0
  | b + 1 => below by' n b + cnt by' n b
def pos (by' : Nat → Nat) (n i : Nat) : Nat := below by' n (by' i) + cnt by' i (by' i)

variable (f : Nat → Nat)

theorem cnt_mono (b : Nat) {i j : Nat} (h : i ≤ j) : cnt f i b ≤ cnt f j b := by
  induction j with
  | zero => have : i = 0 := by omega
            subst this; exact Nat.le_refl _
  | succ j ih =>
    by_cases e : i = j + 1
    · subst e; exact Nat.le_refl _
    · have := ih (by omega)
      simp only [cnt]; omega
theorem cnt_le (i b : Nat) : cnt f i b ≤ i := by
  induction i with
  | zero => simp [cnt]
  | succ i ih => simp only [cnt]; split <;> omega
theorem cnt_hit (i : Nat) : cnt f (i + 1) (f i) = cnt f i (f i) + 1 := by simp [cnt]
theorem cnt_miss {i b : Nat} (h : f i ≠ b) : cnt f (i + 1) b = cnt f i b := by simp [cnt, h]
theorem below_mono (n : Nat) {a b : Nat} (h : a ≤ b) : below f n a ≤ below f n b := by
  induction b with
  | zero => have : a = 0 := by omega
            subst this; exact Nat.le_refl _
  | succ b ih =>
    by_cases e : a = b + 1
    · subst e; exact Nat.le_refl _
    · have := ih (by omega)
      simp only [below]; omega
/-- How many of the first i have a byte below b. -/
theorem below_step (i b : Nat) : below f (i + 1) b = below f i b + if f i < b then 1 else 0 := by
  induction b with
  | zero => simp [below]
  | succ b ih =>
    simp only [below, cnt, ih]
    by_cases h1 : f i < b
    · simp [h1, show f i < b + 1 by omega, show f i ≠ b by omega]; omega
    · by_cases h2 : f i = b
      · simp [h2]; omega
      · simp [h1, h2, show ¬ f i < b + 1 by omega]
theorem below_all (n : Nat) (hf : ∀ i, i < n → f i < 256) : below f n 256 = n := by
  have h0 : ∀ b, below f 0 b = 0 := by
    intro b
    induction b with
    | zero => rfl
    | succ b ih => simp [below, cnt, ih]
  induction n with
  | zero => exact h0 256
  | succ n ih => rw [below_step, ih (fun i hi => hf i (by omega)), if_pos (hf n (by omega))]
theorem below_le (n b : Nat) (hf : ∀ i, i < n → f i < 256) (hb : b ≤ 256) : below f n b ≤ n := by
  have h := below_mono f n hb
  rw [below_all f n hf] at h
  exact h
theorem pos_lt_next (n i : Nat) (hi : i < n) : pos f n i < below f n (f i + 1) := by
  have h1 := cnt_mono f (f i) (show i + 1 ≤ n by omega)
  rw [cnt_hit] at h1
  simp only [pos, below]; omega
theorem pos_lt (n i : Nat) (hf : ∀ i, i < n → f i < 256) (hi : i < n) : pos f n i < n := by
  have h1 := pos_lt_next f n i hi
  have h2 := below_mono f n (show f i + 1 ≤ 256 by have := hf i hi; omega)
  rw [below_all f n hf] at h2
  omega
theorem pos_inj (n i j : Nat) (hi : i < n) (hj : j < n) (h : pos f n i = pos f n j) : i = j := by
  have a1 := pos_lt_next f n i hi
  have a2 := pos_lt_next f n j hj
  by_cases hb : f i = f j
  · by_cases hij : i = j
    · exact hij
    · exfalso
      unfold pos at h
      rw [hb] at h
      rcases Nat.lt_or_gt_of_ne hij with hl | hl
      · have h1 := cnt_mono f (f i) (show i + 1 ≤ j by omega)
        rw [cnt_hit, hb] at h1
        omega
      · have h1 := cnt_mono f (f j) (show j + 1 ≤ i by omega)
        rw [cnt_hit] at h1
        omega
  · exfalso
    rcases Nat.lt_or_gt_of_ne hb with hl | hl
    · have h1 := below_mono f n (show f i + 1 ≤ f j by omega)
      simp only [pos] at *; omega
    · have h1 := below_mono f n (show f j + 1 ≤ f i by omega)
      simp only [pos] at *; omega
theorem cnt_find (b : Nat) : ∀ (n m : Nat), m < cnt f n b → ∃ i, i < n ∧ f i = b ∧ cnt f i b = m
  | 0, m, h => by simp [cnt] at h
  | n + 1, m, h => by
    by_cases hm : m < cnt f n b
    · obtain ⟨i, h1, h2, h3⟩ := cnt_find b n m hm
      exact ⟨i, by omega, h2, h3⟩
    · by_cases hb : f n = b
      · refine ⟨n, by omega, hb, ?_⟩
        simp [cnt, hb] at h; omega
      · rw [cnt_miss f hb] at h; omega
theorem below_find (n p : Nat) : ∀ B, p < below f n B → ∃ b, b < B ∧ below f n b ≤ p ∧ p < below f n (b + 1)
  | 0, h => by simp [below] at h
  | B + 1, h => by
    by_cases hp : p < below f n B
    · obtain ⟨b, h1, h2, h3⟩ := below_find n p B hp
      exact ⟨b, by omega, h2, h3⟩
    · exact ⟨B, by omega, by omega, h⟩
theorem pos_surj (n p : Nat) (hf : ∀ i, i < n → f i < 256) (hp : p < n) : ∃ i, i < n ∧ pos f n i = p := by
  obtain ⟨b, _, h2, h3⟩ := below_find f n p 256 (by rw [below_all f n hf]; exact hp)
  simp only [below] at h3
  obtain ⟨i, i1, i2, i3⟩ := cnt_find f b n (p - below f n b) (by omega)
  exact ⟨i, i1, by unfold pos; rw [i2, i3]; omega⟩

/-- The keys as one pass leaves them. -/
def pass {K : Type} (n : Nat) (x : Nat → K) (p : Nat) : K := x (((List.range n).find? (fun i => pos f n i == p)).getD 0)
theorem pass_at {K : Type} (n : Nat) (x : Nat → K) (i : Nat) (hi : i < n) : pass f n x (pos f n i) = x i := by
  unfold pass
  cases h : (List.range n).find? (fun j => pos f n j == pos f n i) with
  | none =>
    have := List.find?_eq_none.1 h i (List.mem_range.2 hi)
    simp at this
  | some j =>
    have h1 := List.find?_some h
    have h2 := List.mem_range.1 (List.mem_of_find?_eq_some h)
    simp only [Option.getD_some]
    rw [pos_inj f n j i h2 hi (by simpa using h1)]
end Go.Proofs.Qxb6602564a.Count
