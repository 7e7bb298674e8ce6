/-
  THE CLOSED FACTS THAT LOOK AT THE PROGRAM's HEAD. The head is a string of many signs, and the kernel takes such a string apart in time that grows with the square of its length (over a minute and ten gigabytes at each of three facts):
  so it is taken apart once, by the law on 'String.ofList', and the three facts go by that.
-/
import Derived.Test.Qxb6602566aRows
import Derived.JoinedOf
import Derived.KernelRfl
namespace Go.Proofs.Qxb6602566a
def headCodes : List Nat := [
  104, 97, 114, 110, 101, 115, 115, 32, 57, 100, 54, 54, 56, 100, 100, 50, 56, 97, 97, 101, 100, 55, 98, 48, 101, 57, 51, 99, 56, 48, 53, 49, 49, 54, 101, 98, 54, 50, 99, 55,
  57, 56, 49, 53, 97, 51, 55, 51, 54, 51, 98, 54, 57, 99, 101, 49, 99, 52, 57, 54, 101, 56, 51, 54, 48, 56, 54, 100, 54, 54, 98, 56, 32, 99, 117, 116, 32, 97, 116, 32,
  101, 120, 97, 109, 112, 108, 101, 46, 99, 111, 109, 47, 114, 101, 113, 117, 101, 117, 101, 47, 114, 101, 113, 117, 101, 117, 101, 47, 122, 122, 108, 97, 119, 115, 95, 105, 110, 116, 101, 114,
  110, 97, 108, 95, 98, 114, 111, 107, 101, 114, 95, 98, 49, 46, 70, 110, 65, 100, 109, 105, 110, 82, 111, 119, 115, 83, 112, 101, 99, 32, 101, 120, 97, 109, 112, 108, 101, 46, 99, 111,
  109, 47, 114, 101, 113, 117, 101, 117, 101, 47, 114, 101, 113, 117, 101, 117, 101, 47, 122, 122, 108, 97, 119, 115, 95, 105, 110, 116, 101, 114, 110, 97, 108, 95, 98, 114, 111, 107, 101, 114,
  95, 98, 49, 46, 70, 110, 65, 100, 109, 105, 110, 82, 111, 119, 115, 83, 112, 108, 105, 116, 32, 101, 120, 97, 109, 112, 108, 101, 46, 99, 111, 109, 47, 114, 101, 113, 117, 101, 117, 101,
  47, 114, 101, 113, 117, 101, 117, 101, 47, 122, 122, 108, 97, 119, 115, 95, 105, 110, 116, 101, 114, 110, 97, 108, 95, 98, 114, 111, 107, 101, 114, 95, 98, 49, 46, 70, 110, 80, 117, 115,
  104, 83, 112, 101, 99, 32, 101, 120, 97, 109, 112, 108, 101, 46, 99, 111, 109, 47, 114, 101, 113, 117, 101, 117, 101, 47, 114, 101, 113, 117, 101, 117, 101, 47, 122, 122, 108, 97, 119, 115,
  95, 105, 110, 116, 101, 114, 110, 97, 108, 95, 98, 114, 111, 107, 101, 114, 95, 98, 49, 46, 70, 110, 80, 111, 112, 66, 97, 99, 107, 83, 112, 101, 99, 32, 101, 120, 97, 109, 112, 108,
  101, 46, 99, 111, 109, 47, 114, 101, 113, 117, 101, 117, 101, 47, 114, 101, 113, 117, 101, 117, 101, 47, 122, 122, 108, 97, 119, 115, 95, 105, 110, 116, 101, 114, 110, 97, 108, 95, 98, 114,
  111, 107, 101, 114, 95, 98, 49, 46, 70, 110, 80, 117, 115, 104, 80, 111, 112, 66, 97, 99, 107, 82, 111, 117, 110, 100, 84, 114, 105, 112, 32, 101, 120, 97, 109, 112, 108, 101, 46, 99,
  111, 109, 47, 114, 101, 113, 117, 101, 117, 101, 47, 114, 101, 113, 117, 101, 117, 101, 47, 122, 122, 108, 97, 119, 115, 95, 105, 110, 116, 101, 114, 110, 97, 108, 95, 98, 114, 111, 107, 101,
  114, 95, 98, 49, 46, 70, 110, 69, 110, 116, 114, 121, 76, 105, 115, 116, 83, 99, 114, 105, 112, 116]
theorem head_string : Try.prog.initOrder = String.ofList (headCodes.map Char.ofNat) := by
  unfold Try.prog Try.progTables
  dsimp only
  as_aux_lemma => kernel_rfl
theorem head_list : Try.prog.initOrder.toList = headCodes.map Char.ofNat := by rw [head_string, String.toList_ofList]
theorem head_enter_of (P : Program) (hl : P.initOrder.toList = headCodes.map Char.ofNat) (hP : P = Try.prog) : P.mayEnter = true := by
  unfold Program.mayEnter; rw [hl]; subst hP; as_aux_lemma => kernel_rfl
theorem head_lifts : Try.prog.headLifts = [] := by
  unfold Program.headLifts; rw [head_list]; as_aux_lemma => kernel_rfl
theorem head_final : Try.prog.liftsFinal = false := by
  unfold Program.liftsFinal; rw [head_lifts, head_list]; as_aux_lemma => kernel_rfl
theorem head_make_of (P : Program) (hl : P.initOrder.toList = headCodes.map Char.ofNat) (hh : P.headLifts = []) : P.make = some .cut := by
  unfold Program.make; rw [hh, hl]; as_aux_lemma => kernel_rfl
theorem head_enter : Try.prog.mayEnter = true := head_enter_of _ head_list rfl
theorem head_make : Try.prog.make = some .cut := head_make_of _ head_list head_lifts
theorem and_mk {a b : Bool} (ha : a = true) (hb : b = true) : (a && b) = true := by rw [ha, hb]; rfl
end Go.Proofs.Qxb6602566a
