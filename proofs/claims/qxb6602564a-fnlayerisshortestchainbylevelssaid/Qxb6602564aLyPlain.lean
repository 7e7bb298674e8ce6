/-
  WHAT layer COMPUTES, with no Go in sight.
-/
import Derived.Test.Qxb6602564aLyDefs
namespace Go.Proofs.Qxb6602564a
open Go.RowKit
set_option linter.unusedVariables false

/-- The search's state: the queue, the depths, which units are reached, which hubs are open. -/
structure Stt where
  q : List Nat
  dep : Nat → Int
  rc : Nat → Bool
  op : Nat → Bool
def Stt.reach (s : Stt) (x u : Nat) : Stt := { s with q := s.q ++ [u], dep := fun j => if j = u then s.dep x + 1 else s.dep j, rc := fun j => if j = u then true else s.rc j }
/-- The hub's units, the first i of them. -/
def hubS (m : M) (x n : Nat) (s : Stt) : Nat → Stt
  | 0 => s
  | i + 1 => let t := hubS m x n s i
    let u := (m.uf n i).toNat
    if give m u && !t.rc u then t.reach x u else t
/-- Either the search goes on, or it has its answer. -/
abbrev Go' := Sum Stt Int
/-- Replica v of a partition that x masters. -/
def replS (m : M) (lo hi : Int) (x v : Nat) (s : Stt) : Go' :=
  if v = x then .inl s
  else
    let n := (m.f1 v).toNat
    if take m v && hasP lo hi (m.f9 n) then .inr (s.dep x + 1)
    else
      let s1 := if s.rc v then s else s.reach x v
      if take m v && !s1.op n then .inl (hubS m x n { s1 with op := fun j => if j = n then true else s1.op j } (m.un n)) else .inl s1
/-- The first j replicas of partition p. -/
def replsS (m : M) (lo hi : Int) (x p : Nat) (s : Stt) : Nat → Go'
  | 0 => .inl s
  | j + 1 => match replsS m lo hi x p s j with
    | .inr a => .inr a
    | .inl t => replS m lo hi x (m.f6 (p * m.k.toNat + j)).toNat t
/-- The first i partitions that x holds. -/
def partsS (m : M) (lo hi : Int) (x : Nat) (s : Stt) : Nat → Go'
  | 0 => .inl s
  | i + 1 => match partsS m lo hi x s i with
    | .inr a => .inr a
    | .inl t =>
      let p := (m.f4 ((m.f5 x).toNat + i)).toNat
      if m.f0 p = (x : Int) then replsS m lo hi x p t m.k.toNat else .inl t
/-- The first h entries of the queue. -/
def headS (m : M) (lo hi : Int) (s : Stt) : Nat → Go'
  | 0 => .inl s
  | h + 1 => match headS m lo hi s h with
    | .inr a => .inr a
    | .inl t => if hq : h < t.q.length then partsS m lo hi t.q[h] t ((m.f5 (t.q[h] + 1)).toNat - (m.f5 t.q[h]).toNat) else .inl t
/-- The givers on the first n nodes; of node n the first i units. -/
def givU (m : M) (n : Nat) (l : List Nat) : Nat → List Nat
  | 0 => l
  | i + 1 => let t := givU m n l i
    if give m (m.uf n i).toNat then t ++ [(m.uf n i).toNat] else t
def givers (m : M) (lo hi : Int) : Nat → List Nat
  | 0 => []
  | n + 1 => if hasP lo hi (m.f9 n) then givU m n (givers m lo hi n) (m.un n) else givers m lo hi n
end Go.Proofs.Qxb6602564a
