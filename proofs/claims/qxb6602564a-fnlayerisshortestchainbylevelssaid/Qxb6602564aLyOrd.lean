/-
  A REGION THAT DRAWS ITS ORDER, BY AN INVARIANT: one case an operation, not one an order.
-/
import Derived.Test.Qxb6602564aMs
import Derived.Orders
namespace Go.Proofs.Qxb6602564a
open Go.RowKit
set_option linter.unusedVariables false

theorem cnt_set : ∀ (l : List Bool) (i : Nat), l[i]? = some false → ((l.set i true).filter (fun b => !b)).length < (l.filter (fun b => !b)).length
  | [], i, h => by simp at h
  | b :: l, 0, h => by
    simp at h
    subst h
    simp
  | b :: l, i + 1, h => by
    have h' : l[i]? = some false := by simpa using h
    have := cnt_set l i h'
    cases b <;> simpa [List.set_cons_succ] using this
/-- How many operations have not come up. -/
def left (listed : Array Bool) : Nat := (listed.toList.filter (fun b => !b)).length
theorem left_set {listed : Array Bool} {i : Nat} (h : listed[i]? = some false) : left (listed.setIfInBounds i true) < left listed := by
  unfold left
  rw [Array.toList_setIfInBounds]
  exact cnt_set _ i (by simpa using h)
theorem ready_false {md : Region.Mode} {ops : Array Oper} {listed : Array Bool} {i : Nat} (h : i ∈ Region.ready md ops listed) : listed[i]? = some false := by
  unfold Region.ready at h
  simp only [List.mem_filter, Bool.and_eq_true, Bool.not_eq_true', List.mem_range] at h
  have h1 := h.2.1
  rw [Array.getD_eq_getD_getElem?] at h1
  cases e : listed[i]? with
  | none => rw [e] at h1; simp at h1
  | some b => rw [e] at h1; simp at h1; rw [h1]
/-- THE LAW: an invariant that every operation that may come up keeps, and that gives the post when none may. -/
theorem wpAny_inv {P : Program} {md : Region.Mode} {ops : Array Oper} {Q : Exit → Act → World → Prop} (I : Array Bool → Act → World → Prop)
    (hstep : ∀ listed a w, I listed a w → ∀ i, i ∈ Region.ready md ops listed → wpOp P ops Q i (fun a' w' => I (listed.setIfInBounds i true) a' w') a w)
    (hdone : ∀ listed a w, I listed a w → Region.ready md ops listed = [] → Q .normal a w) :
    ∀ (fuel : Nat) (listed : Array Bool) (a : Act) (w : World), left listed ≤ fuel → I listed a w → wpAny P md ops Q fuel listed a w
  | 0, listed, a, w, hl, hI => by
    have hr : Region.ready md ops listed = [] := by
      cases e : Region.ready md ops listed with
      | nil => rfl
      | cons i l =>
        have := left_set (ready_false (md := md) (ops := ops) (i := i) (by rw [e]; simp))
        omega
    exact ⟨hr, hdone _ _ _ hI hr⟩
  | fuel + 1, listed, a, w, hl, hI =>
    ⟨hdone _ _ _ hI, fun i hi => wpOp_mono (fun a' w' h' => wpAny_inv I hstep hdone fuel _ a' w' (by have := left_set (ready_false hi); omega) h') (hstep _ _ _ hI i hi)⟩
/-- None may come up: all have. -/
theorem ready_all {md : Region.Mode} {ops : Array Oper} {listed : Array Bool} (hs : listed.size = ops.size) (hdag : (List.range ops.size).all (fun j => ((ops[j]?).map (fun o => o.after.all (fun e => decide (e.on < j)))).getD false) = true) (hr : Region.ready md ops listed = []) : ∀ j, j < ops.size → listed.getD j false = true := by
  intro j
  induction j using Nat.strongRecOn with
  | ind j ih =>
    intro hj
    have hjl : j < listed.size := by omega
    cases hb : listed[j] with
    | true => simp [Array.getD_eq_getD_getElem?, hjl, hb]
    | false =>
      exfalso
      have hmem : j ∈ Region.ready md ops listed := by
        unfold Region.ready
        refine List.mem_filter.2 ⟨List.mem_range.2 hj, ?_⟩
        have h1 := List.all_eq_true.1 hdag j (List.mem_range.2 hj)
        rw [Array.getElem?_eq_getElem hj] at h1 ⊢
        simp only [Option.map_some, Option.getD_some] at h1 ⊢
        rw [Bool.and_eq_true]
        refine ⟨by simp [Array.getD_eq_getD_getElem?, hjl, hb], ?_⟩
        rw [Array.all_eq_true'] at h1 ⊢
        intro e he
        have h2 : e.on < j := by simpa using h1 e he
        have h3 := ih e.on h2 (by omega)
        simp [h3]
      rw [hr] at hmem
      cases hmem
end Go.Proofs.Qxb6602564a
