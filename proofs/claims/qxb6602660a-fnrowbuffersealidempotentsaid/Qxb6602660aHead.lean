/-
  THE CLOSED FACTS THAT LOOK AT THE PROGRAM's HEAD. The head is a string of many signs, and the kernel takes such a string apart in time that grows with the square of its length (over a minute and ten gigabytes at each of three facts):
  so it is taken apart once, by the law on 'String.ofList', and the three facts go by that.
-/
import Derived.Test.Qxb6602660aRows
import Derived.JoinedOf
import Derived.KernelRfl
namespace Go.Proofs.Qxb6602660a
def headCodes : List Nat := [
  104, 97, 114, 110, 101, 115, 115, 32, 53, 52, 52, 97, 50, 51, 102, 102, 56, 97, 102, 53, 57, 52, 54, 102, 102, 57, 50, 56, 56, 52, 56, 57, 102, 52, 56, 48, 57, 53, 98, 50,
  55, 101, 52, 97, 56, 49, 57, 48, 102, 48, 101, 100, 48, 101, 51, 49, 55, 55, 102, 97, 97, 97, 55, 55, 98, 99, 57, 49, 56, 53, 56, 49, 32, 99, 117, 116, 32, 97, 116, 32,
  101, 120, 97, 109, 112, 108, 101, 46, 99, 111, 109, 47, 103, 117, 97, 110, 108, 105, 97, 110, 47, 103, 117, 97, 110, 108, 105, 97, 110, 47, 122, 122, 108, 97, 119, 115, 95, 116, 97, 98,
  108, 101, 95, 98, 49, 46, 70, 110, 71, 98, 49, 56, 48, 51, 48, 67, 111, 100, 101, 83, 105, 122, 101, 83, 101, 108, 102, 68, 101, 108, 105, 109, 105, 116, 105, 110, 103, 32, 101, 120,
  97, 109, 112, 108, 101, 46, 99, 111, 109, 47, 103, 117, 97, 110, 108, 105, 97, 110, 47, 103, 117, 97, 110, 108, 105, 97, 110, 47, 122, 122, 108, 97, 119, 115, 95, 116, 97, 98, 108, 101,
  95, 98, 49, 46, 70, 110, 69, 100, 105, 116, 105, 111, 110, 67, 111, 100, 101, 73, 115, 84, 119, 111, 66, 121, 116, 101, 67, 111, 100, 101, 32, 101, 120, 97, 109, 112, 108, 101, 46, 99,
  111, 109, 47, 103, 117, 97, 110, 108, 105, 97, 110, 47, 103, 117, 97, 110, 108, 105, 97, 110, 47, 122, 122, 108, 97, 119, 115, 95, 116, 97, 98, 108, 101, 95, 98, 49, 46, 70, 110, 82,
  111, 119, 66, 117, 102, 102, 101, 114, 83, 101, 97, 108, 77, 97, 116, 99, 104, 101, 115, 77, 111, 100, 101, 108, 32, 101, 120, 97, 109, 112, 108, 101, 46, 99, 111, 109, 47, 103, 117, 97,
  110, 108, 105, 97, 110, 47, 103, 117, 97, 110, 108, 105, 97, 110, 47, 122, 122, 108, 97, 119, 115, 95, 116, 97, 98, 108, 101, 95, 98, 49, 46, 70, 110, 82, 111, 119, 66, 117, 102, 102,
  101, 114, 83, 101, 97, 108, 73, 100, 101, 109, 112, 111, 116, 101, 110, 116]
theorem head_string : Try.prog.initOrder = String.ofList (headCodes.map Char.ofNat) := by
  unfold Try.prog Try.progTables
  dsimp only
  as_aux_lemma => kernel_rfl
theorem head_list : Try.prog.initOrder.toList = headCodes.map Char.ofNat := by rw [head_string, String.toList_ofList]
theorem head_enter_of (P : Program) (hl : P.initOrder.toList = headCodes.map Char.ofNat) (hP : P = Try.prog) : P.mayEnter = true := by
  unfold Program.mayEnter; rw [hl]; subst hP; as_aux_lemma => kernel_rfl
theorem head_lifts : Try.prog.headLifts = [] := by
  unfold Program.headLifts; rw [head_list]; as_aux_lemma => kernel_rfl
theorem head_final : Try.prog.liftsFinal = false := by
  unfold Program.liftsFinal; rw [head_lifts, head_list]; as_aux_lemma => kernel_rfl
theorem head_make_of (P : Program) (hl : P.initOrder.toList = headCodes.map Char.ofNat) (hh : P.headLifts = []) : P.make = some .cut := by
  unfold Program.make; rw [hh, hl]; as_aux_lemma => kernel_rfl
theorem head_enter : Try.prog.mayEnter = true := head_enter_of _ head_list rfl
theorem head_make : Try.prog.make = some .cut := head_make_of _ head_list head_lifts
theorem and_mk {a b : Bool} (ha : a = true) (hb : b = true) : (a && b) = true := by rw [ha, hb]; rfl
end Go.Proofs.Qxb6602660a
