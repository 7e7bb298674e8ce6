/-
  THE CLOSED FACTS THAT LOOK AT THE PROGRAM's HEAD. The head is a string of many signs, and the kernel takes such a string apart in time that grows with the square of its length (over a minute and ten gigabytes at each of three facts):
  so it is taken apart once, by the law on 'String.ofList', and the three facts go by that.
-/
import Derived.Test.Qxb6604237aRows
import Derived.JoinedOf
import Derived.KernelRfl
namespace Go.Proofs.Qxb6604237a
def headCodes : List Nat := [
  104, 97, 114, 110, 101, 115, 115, 32, 98, 100, 55, 48, 100, 102, 102, 97, 51, 50, 50, 97, 56, 51, 57, 57, 100, 99, 102, 100, 50, 97, 55, 57, 54, 49, 102, 102, 55, 50, 53, 97,
  99, 97, 55, 102, 99, 100, 57, 49, 99, 101, 48, 48, 100, 51, 48, 54, 50, 54, 51, 55, 99, 100, 51, 100, 55, 55, 55, 48, 98, 53, 102, 99, 32, 99, 117, 116, 32, 97, 116, 32,
  101, 120, 97, 109, 112, 108, 101, 46, 99, 111, 109, 47, 115, 97, 110, 100, 103, 108, 97, 115, 115, 47, 115, 97, 110, 100, 103, 108, 97, 115, 115, 47, 122, 122, 108, 97, 119, 115, 95, 112,
  107, 103, 95, 97, 112, 105, 95, 98, 49, 46, 70, 110, 87, 97, 108, 107, 73, 110, 115, 105, 100, 101, 77, 97, 116, 99, 104, 101, 115, 66, 121, 116, 101, 77, 97, 99, 104, 105, 110, 101,
  32, 101, 120, 97, 109, 112, 108, 101, 46, 99, 111, 109, 47, 115, 97, 110, 100, 103, 108, 97, 115, 115, 47, 115, 97, 110, 100, 103, 108, 97, 115, 115, 47, 122, 122, 108, 97, 119, 115, 95,
  112, 107, 103, 95, 97, 112, 105, 95, 98, 49, 46, 70, 110, 87, 97, 108, 107, 73, 110, 115, 105, 100, 101, 83, 112, 108, 105, 116, 115, 65, 110, 121, 119, 104, 101, 114, 101, 32, 101, 120,
  97, 109, 112, 108, 101, 46, 99, 111, 109, 47, 115, 97, 110, 100, 103, 108, 97, 115, 115, 47, 115, 97, 110, 100, 103, 108, 97, 115, 115, 47, 122, 122, 108, 97, 119, 115, 95, 112, 107, 103,
  95, 97, 112, 105, 95, 98, 49, 46, 70, 110, 72, 101, 120, 52, 77, 97, 116, 99, 104, 101, 115, 68, 105, 103, 105, 116, 84, 97, 98, 108, 101, 32, 101, 120, 97, 109, 112, 108, 101, 46,
  99, 111, 109, 47, 115, 97, 110, 100, 103, 108, 97, 115, 115, 47, 115, 97, 110, 100, 103, 108, 97, 115, 115, 47, 122, 122, 108, 97, 119, 115, 95, 112, 107, 103, 95, 97, 112, 105, 95, 98,
  49, 46, 70, 110, 72, 101, 120, 52, 82, 101, 97, 100, 115, 87, 104, 97, 116, 73, 115, 87, 114, 105, 116, 116, 101, 110, 32, 101, 120, 97, 109, 112, 108, 101, 46, 99, 111, 109, 47, 115,
  97, 110, 100, 103, 108, 97, 115, 115, 47, 115, 97, 110, 100, 103, 108, 97, 115, 115, 47, 122, 122, 108, 97, 119, 115, 95, 112, 107, 103, 95, 97, 112, 105, 95, 98, 49, 46, 70, 110, 82,
  101, 97, 100, 101, 114, 78, 97, 109, 101, 77, 97, 116, 99, 104, 101, 115, 83, 99, 97, 110, 32, 101, 120, 97, 109, 112, 108, 101, 46, 99, 111, 109, 47, 115, 97, 110, 100, 103, 108, 97,
  115, 115, 47, 115, 97, 110, 100, 103, 108, 97, 115, 115, 47, 122, 122, 108, 97, 119, 115, 95, 112, 107, 103, 95, 97, 112, 105, 95, 98, 49, 46, 70, 110, 82, 101, 97, 100, 101, 114, 78,
  97, 109, 101, 82, 101, 97, 100, 115, 81, 117, 111, 116, 101, 100, 84, 101, 120, 116]
theorem head_string : Try.prog.initOrder = String.ofList (headCodes.map Char.ofNat) := by
  unfold Try.prog Try.progTables
  dsimp only
  as_aux_lemma => kernel_rfl
theorem head_list : Try.prog.initOrder.toList = headCodes.map Char.ofNat := by rw [head_string, String.toList_ofList]
theorem head_enter_of (P : Program) (hl : P.initOrder.toList = headCodes.map Char.ofNat) (hP : P = Try.prog) : P.mayEnter = true := by
  unfold Program.mayEnter; rw [hl]; subst hP; as_aux_lemma => kernel_rfl
theorem head_lifts : Try.prog.headLifts = [] := by
  unfold Program.headLifts; rw [head_list]; as_aux_lemma => kernel_rfl
theorem head_final : Try.prog.liftsFinal = false := by
  unfold Program.liftsFinal; rw [head_lifts, head_list]; as_aux_lemma => kernel_rfl
theorem head_make_of (P : Program) (hl : P.initOrder.toList = headCodes.map Char.ofNat) (hh : P.headLifts = []) : P.make = some .cut := by
  unfold Program.make; rw [hh, hl]; as_aux_lemma => kernel_rfl
theorem head_enter : Try.prog.mayEnter = true := head_enter_of _ head_list rfl
theorem head_make : Try.prog.make = some .cut := head_make_of _ head_list head_lifts
theorem and_mk {a b : Bool} (ha : a = true) (hb : b = true) : (a && b) = true := by rw [ha, hb]; rfl
end Go.Proofs.Qxb6604237a
