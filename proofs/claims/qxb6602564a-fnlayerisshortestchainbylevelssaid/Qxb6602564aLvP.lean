/-
  THE SEARCH BY LEVELS, AS A PLAIN FUNCTION; IT ANSWERS THE LEAST LEVEL.
-/
import Derived.Test.Qxb6602564aLvBfs
namespace Go.Proofs.Qxb6602564a
set_option linter.unusedVariables false

def setD (d : Nat → Int) (u : Nat) (z : Int) : Nat → Int := fun j => if j = u then z else d j
/-- Level 0: of node n the first i units; the first n nodes. -/
def gvU (m : M) (n : Nat) (d : Nat → Int) : Nat → Nat → Int
  | 0 => d
  | i + 1 => if give m (m.uf n i).toNat then setD (gvU m n d i) (m.uf n i).toNat 0 else gvU m n d i
def gvN (m : M) (lo hi : Int) : Nat → Nat → Int
  | 0 => fun _ => -1
  | n + 1 => if hasP lo hi (m.f9 n) then gvU m n (gvN m lo hi n) (m.un n) else gvN m lo hi n
def hubD (m : M) (n : Nat) (L : Int) (d : Nat → Int) : Nat → Nat → Int
  | 0 => d
  | i + 1 => if give m (m.uf n i).toNat && decide (hubD m n L d i (m.uf n i).toNat < 0) then setD (hubD m n L d i) (m.uf n i).toNat (L + 1) else hubD m n L d i
def markD (L : Int) (d : Nat → Int) (v : Nat) : Nat → Int := if d v < 0 then setD d v (L + 1) else d
abbrev Lv := Option (Nat → Int)
def replD (m : M) (lo hi L : Int) (x v : Nat) (d : Nat → Int) : Lv :=
  if v = x then some d
  else if take m v then (if hasP lo hi (m.f9 (m.f1 v).toNat) then none else some (markD L (hubD m (m.f1 v).toNat L d (m.un (m.f1 v).toNat)) v))
  else some (markD L d v)
def replsD (m : M) (lo hi L : Int) (x p : Nat) (d : Nat → Int) : Nat → Lv
  | 0 => some d
  | j + 1 => match replsD m lo hi L x p d j with
    | none => none
    | some d' => replD m lo hi L x (m.f6 (p * m.k.toNat + j)).toNat d'
def partD (m : M) (lo hi L : Int) (x p : Nat) (d : Nat → Int) : Lv := if m.f0 p = (x : Int) then replsD m lo hi L x p d m.k.toNat else some d
def partsD (m : M) (lo hi L : Int) (x : Nat) (d : Nat → Int) : Nat → Lv
  | 0 => some d
  | i + 1 => match partsD m lo hi L x d i with
    | none => none
    | some d' => partD m lo hi L x (m.f4 ((m.f5 x).toNat + i)).toNat d'
abbrev Lx := Option ((Nat → Int) × Bool)
def xsD (m : M) (lo hi L : Int) (d : Nat → Int) : Nat → Lx
  | 0 => some (d, false)
  | x + 1 => match xsD m lo hi L d x with
    | none => none
    | some (d', sn) => if d' x = L then (match partsD m lo hi L x d' ((m.f5 (x + 1)).toNat - (m.f5 x).toNat) with
      | none => none
      | some d'' => some (d'', true)) else some (d', sn)
abbrev Ld := Sum (Nat → Int) Int
def levD (m : M) (flo fhi lo hi : Int) : Nat → Ld
  | 0 => .inl (gvN m flo fhi m.n9)
  | L + 1 => match levD m flo fhi lo hi L with
    | .inr a => .inr a
    | .inl d => match xsD m lo hi L d m.n1 with
      | none => .inr ((L : Int) + 1)
      | some (d', sn) => if sn then .inl d' else .inr 0
def lev (m : M) (flo fhi lo hi : Int) : Int := match levD m flo fhi lo hi m.n1 with
  | .inr a => a
  | .inl _ => 0
/-! ### the first level -/
def lvl (l : List Nat) : Nat → Int := fun u => if u ∈ l then 0 else -1
theorem gvU_eq (m : M) (n : Nat) (l : List Nat) : ∀ i, gvU m n (lvl l) i = lvl (givU m n l i)
  | 0 => rfl
  | i + 1 => by
    simp only [gvU, givU, gvU_eq m n l i]
    split
    · funext u
      by_cases e : u = (m.uf n i).toNat <;> simp [setD, lvl, e]
    · rfl
theorem gvN_eq (m : M) (lo hi : Int) : ∀ n, gvN m lo hi n = lvl (givers m lo hi n)
  | 0 => by funext u; simp [gvN, lvl, givers]
  | n + 1 => by
    simp only [gvN, givers, gvN_eq m lo hi n]
    split
    · exact gvU_eq m n _ _
    · rfl
/-! ### one level -/
/-- From d to d': what x hands on to. -/
def Mv (m : M) (L : Int) (x : Nat) (d d' : Nat → Int) : Prop := ∀ u, d' u = d u ∨ (d u < 0 ∧ d' u = L + 1 ∧ E m x u)
theorem Mv.refl (m : M) (L : Int) (x : Nat) (d : Nat → Int) : Mv m L x d d := fun _ => .inl rfl
theorem Mv.trans {m : M} {L : Int} {x : Nat} {d d' d'' : Nat → Int} (hL : 0 ≤ L) (h : Mv m L x d d') (g : Mv m L x d' d'') : Mv m L x d d'' := fun u => by
  rcases g u with g1 | ⟨g1, g2, g3⟩
  · rw [g1]; exact h u
  · rcases h u with h1 | ⟨h1, h2, h3⟩
    · rw [h1] at g1; exact .inr ⟨g1, g2, g3⟩
    · omega
theorem Mv.keep {m : M} {L : Int} {x : Nat} {d d' : Nat → Int} (h : Mv m L x d d') {u : Nat} (hu : 0 ≤ d u) : 0 ≤ d' u := by
  rcases h u with h1 | ⟨h1, _, _⟩ <;> omega
theorem Mv.set {m : M} {L : Int} {x u : Nat} {d : Nat → Int} (hu : d u < 0) (hE : E m x u) : Mv m L x d (setD d u (L + 1)) := fun y => by
  by_cases e : y = u
  · subst e; exact .inr ⟨hu, by simp [setD], hE⟩
  · exact .inl (by simp [setD, e])
theorem hubD_mv {m : M} {L : Int} (hL : 0 ≤ L) {x v : Nat} (hv : Rv m x v) (ht : take m v = true) (d : Nat → Int) : ∀ i, i ≤ m.un (m.f1 v).toNat → Mv m L x d (hubD m (m.f1 v).toNat L d i) ∧ ∀ k, k < i → give m (m.uf (m.f1 v).toNat k).toNat = true → 0 ≤ hubD m (m.f1 v).toNat L d i (m.uf (m.f1 v).toNat k).toNat
  | 0, _ => ⟨Mv.refl _ _ _ _, fun k hk => by omega⟩
  | i + 1, hi => by
    obtain ⟨h1, h2⟩ := hubD_mv hL hv ht d i (by omega)
    simp only [hubD]
    split
    · rename_i hc
      simp only [Bool.and_eq_true, decide_eq_true_eq] at hc
      have hm := Mv.set (m := m) (L := L) (x := x) hc.2 ⟨v, hv, .inr ⟨ht, i, by omega, rfl, hc.1⟩⟩
      refine ⟨h1.trans hL hm, fun k hk hg => ?_⟩
      by_cases e : k = i
      · subst e; simp only [setD, if_true]; omega
      · exact hm.keep (h2 k (by omega) hg)
    · rename_i hc
      refine ⟨h1, fun k hk hg => ?_⟩
      by_cases e : k = i
      · subst e
        simp only [hg, Bool.true_and, decide_eq_true_eq] at hc
        omega
      · exact h2 k (by omega) hg
def DoneD (m : M) (lo hi : Int) (v : Nat) (d : Nat → Int) : Prop := 0 ≤ d v ∧ (take m v = true → (∀ u, HubU m v u → 0 ≤ d u) ∧ hasP lo hi (m.f9 (m.f1 v).toNat) = false)
theorem DoneD.keep {m : M} {lo hi L : Int} {x v : Nat} {d d' : Nat → Int} (h : DoneD m lo hi v d) (g : Mv m L x d d') : DoneD m lo hi v d' := ⟨g.keep h.1, fun ht => ⟨fun u hu => g.keep ((h.2 ht).1 u hu), (h.2 ht).2⟩⟩
theorem markD_mv {m : M} {L : Int} (hL : 0 ≤ L) {x v : Nat} (hv : Rv m x v) (d : Nat → Int) : Mv m L x d (markD L d v) ∧ 0 ≤ markD L d v v := by
  unfold markD
  split
  · rename_i h
    exact ⟨Mv.set h ⟨v, hv, .inl rfl⟩, by simp only [setD, if_true]; omega⟩
  · exact ⟨Mv.refl _ _ _ _, by omega⟩
theorem replD_mv {m : M} {lo hi L : Int} (hL : 0 ≤ L) {x v : Nat} (hv : Rv m x v) (hvx : v ≠ x) (d : Nat → Int) : (∀ d', replD m lo hi L x v d = some d' → Mv m L x d d' ∧ DoneD m lo hi v d') ∧ (replD m lo hi L x v d = none → Hit m lo hi x) := by
  simp only [replD, if_neg hvx]
  by_cases ht : take m v = true
  · rw [if_pos ht]
    by_cases hh : hasP lo hi (m.f9 (m.f1 v).toNat) = true
    · rw [if_pos hh]
      exact ⟨fun d' h => (by cases h), fun _ => ⟨v, hv, ht, hh⟩⟩
    · rw [if_neg hh]
      refine ⟨fun d' h => ?_, fun h => by cases h⟩
      injection h with h
      subst h
      obtain ⟨h1, h2⟩ := hubD_mv hL hv ht d _ (Nat.le_refl _)
      obtain ⟨h3, h4⟩ := markD_mv hL hv (hubD m (m.f1 v).toNat L d (m.un (m.f1 v).toNat))
      refine ⟨h1.trans hL h3, h4, fun _ => ⟨fun u hu => ?_, by simpa using hh⟩⟩
      obtain ⟨k, hk, rfl, hg⟩ := hu
      exact h3.keep (h2 k hk hg)
  · rw [if_neg ht]
    refine ⟨fun d' h => ?_, fun h => by cases h⟩
    injection h with h
    subst h
    obtain ⟨h3, h4⟩ := markD_mv hL hv d
    exact ⟨h3, h4, fun h => absurd h ht⟩
theorem replsD_mv {m : M} {lo hi L : Int} (hL : 0 ≤ L) {x i : Nat} (hi' : i < (m.f5 (x + 1)).toNat - (m.f5 x).toNat) (hx : m.f0 (m.f4 ((m.f5 x).toNat + i)).toNat = (x : Int)) (d : Nat → Int) : ∀ j, j ≤ m.k.toNat →
    (∀ d', replsD m lo hi L x (m.f4 ((m.f5 x).toNat + i)).toNat d j = some d' → Mv m L x d d' ∧ ∀ k, k < j → (m.f6 ((m.f4 ((m.f5 x).toNat + i)).toNat * m.k.toNat + k)).toNat ≠ x → DoneD m lo hi (m.f6 ((m.f4 ((m.f5 x).toNat + i)).toNat * m.k.toNat + k)).toNat d') ∧
    (replsD m lo hi L x (m.f4 ((m.f5 x).toNat + i)).toNat d j = none → Hit m lo hi x)
  | 0, _ => ⟨fun d' h => by simp only [replsD] at h; injection h with h; subst h; exact ⟨Mv.refl _ _ _ _, fun k hk => by omega⟩, fun h => by simp only [replsD] at h; cases h⟩
  | j + 1, hj => by
    obtain ⟨ih1, ih2⟩ := replsD_mv (lo := lo) (hi := hi) hL hi' hx d j (by omega)
    simp only [replsD]
    cases hr : replsD m lo hi L x (m.f4 ((m.f5 x).toNat + i)).toNat d j with
    | none => exact ⟨fun d' h => (by cases h), fun _ => ih2 hr⟩
    | some t =>
      simp only
      obtain ⟨c1, c2⟩ := ih1 t hr
      by_cases hvx : (m.f6 ((m.f4 ((m.f5 x).toNat + i)).toNat * m.k.toNat + j)).toNat = x
      · rw [show replD m lo hi L x (m.f6 ((m.f4 ((m.f5 x).toNat + i)).toNat * m.k.toNat + j)).toNat t = some t by simp only [replD, if_pos hvx]]
        refine ⟨fun t' h => ?_, fun h => by cases h⟩
        injection h with h
        subst h
        refine ⟨c1, fun k hk hne => ?_⟩
        by_cases e : k = j
        · subst e; exact absurd hvx hne
        · exact c2 k (by omega) hne
      · obtain ⟨d1, d2⟩ := replD_mv (lo := lo) (hi := hi) hL ⟨i, hi', hx, j, by omega, rfl, hvx⟩ hvx t
        refine ⟨fun t' h => ?_, fun h => d2 h⟩
        obtain ⟨e1, e2⟩ := d1 t' h
        refine ⟨c1.trans hL e1, fun k hk hne => ?_⟩
        by_cases e : k = j
        · subst e; exact e2
        · exact (c2 k (by omega) hne).keep e1
theorem partsD_mv {m : M} {lo hi L : Int} (hL : 0 ≤ L) {x : Nat} (d : Nat → Int) : ∀ i, i ≤ (m.f5 (x + 1)).toNat - (m.f5 x).toNat →
    (∀ d', partsD m lo hi L x d i = some d' → Mv m L x d d' ∧ ∀ l, l < i → m.f0 (m.f4 ((m.f5 x).toNat + l)).toNat = (x : Int) → ∀ k, k < m.k.toNat → (m.f6 ((m.f4 ((m.f5 x).toNat + l)).toNat * m.k.toNat + k)).toNat ≠ x → DoneD m lo hi (m.f6 ((m.f4 ((m.f5 x).toNat + l)).toNat * m.k.toNat + k)).toNat d') ∧
    (partsD m lo hi L x d i = none → Hit m lo hi x)
  | 0, _ => ⟨fun d' h => by simp only [partsD] at h; injection h with h; subst h; exact ⟨Mv.refl _ _ _ _, fun k hk => by omega⟩, fun h => by simp only [partsD] at h; cases h⟩
  | i + 1, hi' => by
    obtain ⟨ih1, ih2⟩ := partsD_mv (m := m) (lo := lo) (hi := hi) hL (x := x) d i (by omega)
    simp only [partsD]
    cases hr : partsD m lo hi L x d i with
    | none => exact ⟨fun d' h => (by cases h), fun _ => ih2 hr⟩
    | some t =>
      simp only [partD]
      obtain ⟨c1, c2⟩ := ih1 t hr
      by_cases hx : m.f0 (m.f4 ((m.f5 x).toNat + i)).toNat = (x : Int)
      · rw [if_pos hx]
        have hi2 : i < (m.f5 (x + 1)).toNat - (m.f5 x).toNat := by omega
        obtain ⟨d1, d2⟩ := replsD_mv (lo := lo) (hi := hi) hL hi2 hx t m.k.toNat (Nat.le_refl _)
        refine ⟨fun t' h => ?_, d2⟩
        obtain ⟨e1, e2⟩ := d1 t' h
        refine ⟨c1.trans hL e1, fun l hl hlx k hk hne => ?_⟩
        by_cases e : l = i
        · subst e; exact e2 k hk hne
        · exact (c2 l (by omega) hlx k hk hne).keep e1
      · rw [if_neg hx]
        refine ⟨fun t' h => ?_, fun h => by cases h⟩
        injection h with h
        subst h
        refine ⟨c1, fun l hl hlx k hk hne => ?_⟩
        by_cases e : l = i
        · subst e; exact absurd hlx hx
        · exact c2 l (by omega) hlx k hk hne
/-- The whole of x. -/
theorem partsD_all {m : M} {lo hi L : Int} (hL : 0 ≤ L) {x : Nat} {d d' : Nat → Int} (h : partsD m lo hi L x d ((m.f5 (x + 1)).toNat - (m.f5 x).toNat) = some d') : Mv m L x d d' ∧ (∀ u, E m x u → 0 ≤ d' u) ∧ ¬ Hit m lo hi x := by
  obtain ⟨h1, h2⟩ := (partsD_mv (lo := lo) (hi := hi) hL (x := x) d _ (Nat.le_refl _)).1 d' h
  have hdone : ∀ v, Rv m x v → DoneD m lo hi v d' := by
    rintro v ⟨l, hl, hlx, k, hk, rfl, hne⟩
    exact h2 l hl hlx k hk hne
  refine ⟨h1, ?_, ?_⟩
  · rintro u ⟨v, hv, rfl | ⟨ht, hu⟩⟩
    · exact (hdone u hv).1
    · exact ((hdone v hv).2 ht).1 u hu
  · rintro ⟨v, hv, ht, hh⟩
    rw [((hdone v hv).2 ht).2] at hh; cases hh
/-! ### level upon level -/
theorem A_lt {m : M} (hW : WF m) {flo fhi : Int} : ∀ L u, A m flo fhi L u → u < m.n1
  | 0, u, h => givers_lt hW flo fhi m.n9 (Nat.le_refl _) u h
  | L + 1, u, h => by
    rcases h with h | ⟨x, hx, hE⟩
    · exact A_lt hW L u h
    · exact E_lt hW (A_lt hW L x hx) hE
/-- Before level L. -/
structure VI (m : M) (flo fhi lo hi : Int) (L : Nat) (d : Nat → Int) : Prop where
  v1 : ∀ u, u < m.n1 → ∀ K, K ≤ L → (A m flo fhi K u ↔ 0 ≤ d u ∧ d u ≤ (K : Int))
  v2 : ∀ u, u < m.n1 → -1 ≤ d u ∧ d u ≤ (L : Int)
  v3 : ∀ K, K < L → ¬ HitL m flo fhi lo hi K
  v4 : ∀ K, K < L → ∃ u, u < m.n1 ∧ d u = (K : Int)
theorem VI.start (m : M) (flo fhi lo hi : Int) : VI m flo fhi lo hi 0 (gvN m flo fhi m.n9) := by
  rw [gvN_eq]
  refine ⟨fun u hu K hK => ?_, fun u hu => ?_, fun K hK => by omega, fun K hK => by omega⟩
  · obtain rfl : K = 0 := by omega
    simp only [A, lvl]
    by_cases h : u ∈ givers m flo fhi m.n9
    · simp [h]
    · simp [h]
  · simp only [lvl]; split <;> omega
/-- While level L is worked on: the units below x are done. -/
structure XI (m : M) (lo hi : Int) (L : Nat) (d0 : Nat → Int) (x : Nat) (d : Nat → Int) (sn : Bool) : Prop where
  x1 : ∀ u, d u = d0 u ∨ (d0 u < 0 ∧ d u = (L : Int) + 1 ∧ ∃ y, y < x ∧ d0 y = (L : Int) ∧ E m y u)
  x3 : ∀ y, y < x → d0 y = (L : Int) → (∀ u, E m y u → 0 ≤ d u) ∧ ¬ Hit m lo hi y
  x4 : sn = true ↔ ∃ y, y < x ∧ d0 y = (L : Int)
theorem xs_inv {m : M} {lo hi : Int} {L : Nat} {d0 : Nat → Int} : ∀ x, (∀ d sn, xsD m lo hi L d0 x = some (d, sn) → XI m lo hi L d0 x d sn) ∧ (xsD m lo hi L d0 x = none → ∃ y, y < x ∧ d0 y = (L : Int) ∧ Hit m lo hi y)
  | 0 => ⟨fun d sn h => by
      simp only [xsD] at h
      obtain ⟨h1, h2⟩ := Prod.mk.inj (Option.some.inj h)
      subst h1; subst h2
      exact ⟨fun u => .inl rfl, fun y hy => by omega, by simp⟩, fun h => by simp only [xsD] at h; cases h⟩
  | x + 1 => by
    obtain ⟨ih1, ih2⟩ := xs_inv (m := m) (lo := lo) (hi := hi) (L := L) (d0 := d0) x
    simp only [xsD]
    cases hr : xsD m lo hi L d0 x with
    | none =>
      refine ⟨fun d sn h => (by cases h), fun _ => ?_⟩
      obtain ⟨y, hy, h1, h2⟩ := ih2 hr
      exact ⟨y, by omega, h1, h2⟩
    | some z =>
      obtain ⟨d, sn⟩ := z
      simp only
      have I := ih1 d sn hr
      by_cases hx : d x = (L : Int)
      · rw [if_pos hx]
        have hx0 : d0 x = (L : Int) := by
          rcases I.x1 x with h | ⟨_, h, _⟩
          · rw [← h]; exact hx
          · omega
        cases hp : partsD m lo hi L x d ((m.f5 (x + 1)).toNat - (m.f5 x).toNat) with
        | none =>
          refine ⟨fun d sn h => (by cases h), fun _ => ⟨x, by omega, hx0, ?_⟩⟩
          exact (partsD_mv (by omega) d _ (Nat.le_refl _)).2 hp
        | some d' =>
          simp only
          refine ⟨fun d'' sn' h => ?_, fun h => by cases h⟩
          obtain ⟨h1, h2⟩ := Prod.mk.inj (Option.some.inj h)
          subst h1; subst h2
          obtain ⟨c1, c2, c3⟩ := partsD_all (lo := lo) (hi := hi) (by omega) hp
          refine ⟨fun u => ?_, fun y hy hyL => ?_, ?_⟩
          · rcases c1 u with e | ⟨e1, e2, e3⟩
            · rcases I.x1 u with g | ⟨g1, g2, y, g3, g4, g5⟩
              · exact .inl (e.trans g)
              · exact .inr ⟨g1, e.trans g2, y, by omega, g4, g5⟩
            · rcases I.x1 u with g | ⟨g1, g2, _⟩
              · exact .inr ⟨by omega, e2, x, by omega, hx0, e3⟩
              · omega
          · by_cases e : y = x
            · subst e; exact ⟨c2, c3⟩
            · obtain ⟨g1, g2⟩ := I.x3 y (by omega) hyL
              exact ⟨fun u hu => c1.keep (g1 u hu), g2⟩
          · simp only [true_iff]; exact ⟨x, by omega, hx0⟩
      · rw [if_neg hx]
        refine ⟨fun d'' sn' h => ?_, fun h => by cases h⟩
        obtain ⟨h1, h2⟩ := Prod.mk.inj (Option.some.inj h)
        subst h1; subst h2
        have hx0 : d0 x ≠ (L : Int) := by
          rcases I.x1 x with h | ⟨h, _⟩
          · rw [← h]; exact hx
          · omega
        refine ⟨fun u => ?_, fun y hy hyL => ?_, ?_⟩
        · rcases I.x1 u with g | ⟨g1, g2, y, g3, g4, g5⟩
          · exact .inl g
          · exact .inr ⟨g1, g2, y, by omega, g4, g5⟩
        · by_cases e : y = x
          · subst e; exact absurd hyL hx0
          · exact I.x3 y (by omega) hyL
        · rw [I.x4]
          constructor
          · rintro ⟨y, hy, h⟩; exact ⟨y, by omega, h⟩
          · rintro ⟨y, hy, h⟩
            by_cases e : y = x
            · subst e; exact absurd h hx0
            · exact ⟨y, by omega, h⟩
/-- Where no unit is at level L, none is beyond. -/
theorem VI.none {m : M} (hW : WF m) {flo fhi lo hi : Int} {L : Nat} {d : Nat → Int} (I : VI m flo fhi lo hi L d) (h : ∀ u, u < m.n1 → d u ≠ (L : Int)) : ∀ K u, A m flo fhi K u → 0 ≤ d u ∧ d u < (L : Int)
  | 0, u, hu => by
    have hl := A_lt hW 0 u hu
    have h1 := (I.v1 u hl 0 (by omega)).1 hu
    have h2 := h u hl
    have h3 := (I.v2 u hl).2
    omega
  | K + 1, u, hu => by
    rcases hu with hu | ⟨x, hx, hE⟩
    · exact VI.none hW I h K u hu
    · have hxl := A_lt hW K x hx
      have hul := E_lt hW hxl hE
      have h1 := VI.none hW I h K x hx
      have h2 := (I.v1 x hxl (d x).toNat (by omega)).2 (by omega)
      have h3 : A m flo fhi ((d x).toNat + 1) u := .inr ⟨x, h2, hE⟩
      have h4 := (I.v1 u hul ((d x).toNat + 1) (by omega)).1 h3
      have h5 := h u hul
      have h6 := (I.v2 u hul).2
      omega
theorem VI.zero {m : M} (hW : WF m) {flo fhi lo hi : Int} {L : Nat} {d : Nat → Int} (I : VI m flo fhi lo hi L d) (h : ∀ u, u < m.n1 → d u ≠ (L : Int)) : Ans m flo fhi lo hi 0 := by
  refine .inr ⟨rfl, ?_⟩
  rintro K ⟨x, hx, hH⟩
  have hxl := A_lt hW K x hx
  have h1 := I.none hW h K x hx
  have h2 := (I.v1 x hxl (d x).toNat (by omega)).2 (by omega)
  exact I.v3 (d x).toNat (by omega) ⟨x, h2, hH⟩
theorem VI.next {m : M} (hW : WF m) {flo fhi lo hi : Int} {L : Nat} {d0 d : Nat → Int} (I : VI m flo fhi lo hi L d0) (X : XI m lo hi L d0 m.n1 d true) : VI m flo fhi lo hi (L + 1) d := by
  have hlow : ∀ u, u < m.n1 → 0 ≤ d0 u → d u = d0 u := fun u _ h => by
    rcases X.x1 u with g | ⟨g, _⟩
    · exact g
    · omega
  refine ⟨fun u hu K hK => ?_, fun u hu => ?_, fun K hK => ?_, fun K hK => ?_⟩
  · have h2 := I.v2 u hu
    by_cases hKL : K ≤ L
    · rw [I.v1 u hu K hKL]
      rcases X.x1 u with g | ⟨g1, g2, _⟩
      · rw [g]
      · constructor
        · rintro ⟨h, _⟩; omega
        · rintro ⟨_, h⟩; omega
    · obtain rfl : K = L + 1 := by omega
      constructor
      · intro hA
        have hpos : 0 ≤ d u := by
          rcases hA with hA | ⟨x, hx, hE⟩
          · have h1 := (I.v1 u hu L (Nat.le_refl _)).1 hA
            rw [hlow u hu h1.1]; exact h1.1
          · have hxl := A_lt hW L x hx
            have h1 := (I.v1 x hxl L (Nat.le_refl _)).1 hx
            by_cases e : d0 x = (L : Int)
            · exact (X.x3 x hxl e).1 u hE
            · have h3 := (I.v1 x hxl (d0 x).toNat (by omega)).2 (by omega)
              have h4 : A m flo fhi ((d0 x).toNat + 1) u := .inr ⟨x, h3, hE⟩
              have h5 := (I.v1 u hu ((d0 x).toNat + 1) (by omega)).1 h4
              rw [hlow u hu h5.1]; exact h5.1
        refine ⟨hpos, ?_⟩
        rcases X.x1 u with g | ⟨g1, g2, _⟩ <;> omega
      · rintro ⟨hp, _⟩
        rcases X.x1 u with g | ⟨g1, g2, y, g3, g4, g5⟩
        · exact .inl ((I.v1 u hu L (Nat.le_refl _)).2 (by omega))
        · exact .inr ⟨y, (I.v1 y g3 L (Nat.le_refl _)).2 (by omega), g5⟩
  · have h2 := I.v2 u hu
    rcases X.x1 u with g | ⟨g1, g2, _⟩ <;> omega
  · by_cases e : K = L
    · subst e
      rintro ⟨x, hx, hH⟩
      have hxl := A_lt hW K x hx
      have h1 := (I.v1 x hxl K (Nat.le_refl _)).1 hx
      by_cases e2 : d0 x = (K : Int)
      · exact (X.x3 x hxl e2).2 hH
      · have h3 := (I.v1 x hxl (d0 x).toNat (by omega)).2 (by omega)
        exact I.v3 (d0 x).toNat (by omega) ⟨x, h3, hH⟩
    · exact I.v3 K (by omega)
  · by_cases e : K = L
    · subst e
      obtain ⟨y, hy, h⟩ := X.x4.1 rfl
      exact ⟨y, hy, by rw [hlow y hy (by omega)]; exact h⟩
    · obtain ⟨u, hu, h⟩ := I.v4 K (by omega)
      exact ⟨u, hu, by rw [hlow u hu (by omega)]; exact h⟩
theorem cntB_or (f g : Nat → Bool) (h : ∀ u, f u = true → g u = false) : ∀ n, cntB (fun u => f u || g u) n = cntB f n + cntB g n
  | 0 => rfl
  | n + 1 => by
    simp only [cntB, cntB_or f g h n]
    by_cases hf : f n = true
    · simp [hf, h n hf]; omega
    · simp [hf]; omega
theorem cntB_pos {g : Nat → Bool} {u : Nat} : ∀ {n}, u < n → g u = true → 1 ≤ cntB g n
  | 0, h, _ => by omega
  | n + 1, h, hg => by
    simp only [cntB]
    by_cases e : u = n
    · subst e; simp [hg]
    · have := cntB_pos (n := n) (by omega) hg; omega
theorem levels_cnt (d : Nat → Int) (n : Nat) : ∀ K : Nat, (∀ k : Nat, k < K → ∃ u, u < n ∧ d u = (k : Int)) → K ≤ cntB (fun u => decide (0 ≤ d u) && decide (d u < (K : Int))) n
  | 0, _ => by omega
  | K + 1, h => by
    have ih := levels_cnt d n K (fun k hk => h k (by omega))
    obtain ⟨u, hu, hd⟩ := h K (by omega)
    have e : (fun u => decide (0 ≤ d u) && decide (d u < ((K + 1 : Nat) : Int))) = fun u => (decide (0 ≤ d u) && decide (d u < (K : Int))) || decide (d u = (K : Int)) := by
      funext u
      rw [Bool.eq_iff_iff]
      simp only [Bool.and_eq_true, Bool.or_eq_true, decide_eq_true_eq]
      omega
    rw [e, cntB_or _ _ (fun u hu => by simp only [Bool.and_eq_true, decide_eq_true_eq] at hu; simp only [decide_eq_false_iff_not]; omega)]
    have := cntB_pos (g := fun u => decide (d u = (K : Int))) hu (by simp [hd])
    omega
/-- THE LAW: the search by levels answers the least level. -/
theorem lev_spec {m : M} (hW : WF m) (flo fhi lo hi : Int) : Ans m flo fhi lo hi (lev m flo fhi lo hi) := by
  have key : ∀ L, (∀ d, levD m flo fhi lo hi L = .inl d → VI m flo fhi lo hi L d) ∧ (∀ a, levD m flo fhi lo hi L = .inr a → Ans m flo fhi lo hi a) := by
    intro L
    induction L with
    | zero =>
      refine ⟨fun d h => ?_, fun a h => by simp only [levD] at h; cases h⟩
      simp only [levD] at h
      injection h with h
      subst h
      exact VI.start m flo fhi lo hi
    | succ L ih =>
      obtain ⟨ih1, ih2⟩ := ih
      simp only [levD]
      cases hr : levD m flo fhi lo hi L with
      | inr a =>
        refine ⟨fun d h => (by cases h), fun b h => ?_⟩
        injection h with h
        subst h
        exact ih2 a hr
      | inl d0 =>
        simp only
        have I := ih1 d0 hr
        obtain ⟨x1, x2⟩ := xs_inv (m := m) (lo := lo) (hi := hi) (L := L) (d0 := d0) m.n1
        cases hx : xsD m lo hi L d0 m.n1 with
        | none =>
          refine ⟨fun d h => (by cases h), fun b h => ?_⟩
          injection h with h
          subst h
          obtain ⟨y, hy, h1, h2⟩ := x2 hx
          exact .inl ⟨L, rfl, ⟨y, (I.v1 y hy L (Nat.le_refl _)).2 (by omega), h2⟩, I.v3⟩
        | some z =>
          obtain ⟨d, sn⟩ := z
          simp only
          have X := x1 d sn hx
          cases sn with
          | true =>
            simp only [if_true]
            refine ⟨fun d' h => ?_, fun a h => by cases h⟩
            injection h with h
            subst h
            exact I.next hW X
          | false =>
            simp only [Bool.false_eq_true, if_false]
            refine ⟨fun d' h => (by cases h), fun a h => ?_⟩
            injection h with h
            subst h
            exact I.zero hW (fun u hu e => by
              have := X.x4.2 ⟨u, hu, e⟩
              cases this)
  obtain ⟨k1, k2⟩ := key m.n1
  unfold lev
  cases hr : levD m flo fhi lo hi m.n1 with
  | inr a => exact k2 a hr
  | inl d =>
    have I := k1 d hr
    refine I.zero hW (fun u hu e => ?_)
    have h1 := levels_cnt d m.n1 (m.n1 + 1) (fun k hk => by
      by_cases e2 : k = m.n1
      · subst e2; exact ⟨u, hu, e⟩
      · exact I.v4 k (by omega))
    have h2 := cntB_le (fun u => decide (0 ≤ d u) && decide (d u < ((m.n1 + 1 : Nat) : Int))) m.n1
    omega
theorem lev_ans {m : M} (hW : WF m) (flo fhi lo hi : Int) : ans m flo fhi lo hi = lev m flo fhi lo hi := (ans_spec hW flo fhi lo hi).unique (lev_spec hW flo fhi lo hi)
end Go.Proofs.Qxb6602564a
