import Derived.Test.Qxb6604363aRows
import Derived.WalkKit
import Derived.ProofKit
namespace Go.Proofs.Qxb6604363a
open Go

/-! ### THE HEAD's ROW AS SIGNS: the translation's first row is long; its signs are laid out once, so that the kernel need not take the string apart anew at each closed fact. -/
def headCodes : List Nat := [
  104, 97, 114, 110, 101, 115, 115, 32, 51, 49, 56, 100, 55, 57, 54, 100, 100, 49, 55, 51, 53, 53, 49, 51, 52, 101, 54, 98, 98, 97, 56, 51, 48, 54, 99, 98, 54, 102, 98, 101,
  99, 54, 53, 52, 57, 57, 102, 57, 97, 54, 57, 56, 50, 56, 98, 97, 99, 55, 98, 51, 50, 57, 50, 50, 100, 102, 101, 101, 50, 50, 99, 57, 32, 99, 117, 116, 32, 97, 116, 32,
  101, 120, 97, 109, 112, 108, 101, 46, 99, 111, 109, 47, 110, 97, 114, 114, 111, 119, 45, 103, 97, 116, 101, 47, 110, 97, 114, 114, 111, 119, 45, 103, 97, 116, 101, 47, 122, 122, 108, 97,
  119, 115, 95, 105, 110, 116, 101, 114, 110, 97, 108, 95, 114, 101, 103, 101, 120, 95, 98, 49, 46, 70, 110, 66, 121, 116, 101, 83, 101, 116, 65, 100, 100, 73, 115, 83, 101, 116, 73, 110,
  115, 101, 114, 116, 32, 101, 120, 97, 109, 112, 108, 101, 46, 99, 111, 109, 47, 110, 97, 114, 114, 111, 119, 45, 103, 97, 116, 101, 47, 110, 97, 114, 114, 111, 119, 45, 103, 97, 116, 101,
  47, 122, 122, 108, 97, 119, 115, 95, 105, 110, 116, 101, 114, 110, 97, 108, 95, 114, 101, 103, 101, 120, 95, 98, 49, 46, 70, 110, 66, 121, 116, 101, 83, 101, 116, 65, 100, 100, 65, 103,
  114, 101, 101, 115, 87, 105, 116, 104, 72, 97, 115, 65, 110, 100, 67, 111, 117, 110, 116, 32, 101, 120, 97, 109, 112, 108, 101, 46, 99, 111, 109, 47, 110, 97, 114, 114, 111, 119, 45, 103,
  97, 116, 101, 47, 110, 97, 114, 114, 111, 119, 45, 103, 97, 116, 101, 47, 122, 122, 108, 97, 119, 115, 95, 105, 110, 116, 101, 114, 110, 97, 108, 95, 114, 101, 103, 101, 120, 95, 98, 49,
  46, 70, 110, 66, 121, 116, 101, 83, 101, 116, 65, 100, 100, 82, 97, 110, 103, 101, 73, 115, 73, 110, 116, 101, 114, 118, 97, 108, 85, 110, 105, 111, 110, 32, 101, 120, 97, 109, 112, 108,
  101, 46, 99, 111, 109, 47, 110, 97, 114, 114, 111, 119, 45, 103, 97, 116, 101, 47, 110, 97, 114, 114, 111, 119, 45, 103, 97, 116, 101, 47, 122, 122, 108, 97, 119, 115, 95, 105, 110, 116,
  101, 114, 110, 97, 108, 95, 114, 101, 103, 101, 120, 95, 98, 49, 46, 70, 110, 66, 121, 116, 101, 83, 101, 116, 65, 100, 100, 82, 97, 110, 103, 101, 67, 111, 117, 110, 116, 115, 83, 112,
  108, 105, 116, 115, 65, 110, 100, 65, 103, 114, 101, 101, 115, 87, 105, 116, 104, 65, 100, 100, 32, 101, 120, 97, 109, 112, 108, 101, 46, 99, 111, 109, 47, 110, 97, 114, 114, 111, 119, 45,
  103, 97, 116, 101, 47, 110, 97, 114, 114, 111, 119, 45, 103, 97, 116, 101, 47, 122, 122, 108, 97, 119, 115, 95, 105, 110, 116, 101, 114, 110, 97, 108, 95, 114, 101, 103, 101, 120, 95, 98,
  49, 46, 70, 110, 83, 108, 111, 116, 76, 97, 121, 111, 117, 116, 84, 105, 108, 101, 115, 69, 120, 97, 99, 116, 108, 121, 32, 101, 120, 97, 109, 112, 108, 101, 46, 99, 111, 109, 47, 110,
  97, 114, 114, 111, 119, 45, 103, 97, 116, 101, 47, 110, 97, 114, 114, 111, 119, 45, 103, 97, 116, 101, 47, 122, 122, 108, 97, 119, 115, 95, 105, 110, 116, 101, 114, 110, 97, 108, 95, 114,
  101, 103, 101, 120, 95, 98, 49, 46, 70, 110, 83, 108, 111, 116, 68, 105, 115, 116, 105, 110, 99, 116, 65, 110, 100, 79, 114, 100, 101, 114, 101, 100, 32, 101, 120, 97, 109, 112, 108, 101,
  46, 99, 111, 109, 47, 110, 97, 114, 114, 111, 119, 45, 103, 97, 116, 101, 47, 110, 97, 114, 114, 111, 119, 45, 103, 97, 116, 101, 47, 122, 122, 108, 97, 119, 115, 95, 105, 110, 116, 101,
  114, 110, 97, 108, 95, 114, 101, 103, 101, 120, 95, 98, 49, 46, 70, 110, 69, 109, 105, 116, 67, 108, 97, 115, 115, 101, 115, 78, 117, 109, 98, 101, 114, 101, 100, 66, 121, 70, 105, 114,
  115, 116, 83, 105, 103, 104, 116, 32, 101, 120, 97, 109, 112, 108, 101, 46, 99, 111, 109, 47, 110, 97, 114, 114, 111, 119, 45, 103, 97, 116, 101, 47, 110, 97, 114, 114, 111, 119, 45, 103,
  97, 116, 101, 47, 122, 122, 108, 97, 119, 115, 95, 105, 110, 116, 101, 114, 110, 97, 108, 95, 114, 101, 103, 101, 120, 95, 98, 49, 46, 70, 110, 69, 109, 105, 116, 76, 111, 111, 107, 79,
  114, 65, 116, 111, 109, 105, 99, 65, 102, 116, 101, 114, 80, 114, 101, 102, 105, 120]
theorem head_is : Try.prog.initOrder = String.ofList (headCodes.map Char.ofNat) := by kernel_rfl
theorem head_signs : Try.prog.initOrder.toList = headCodes.map Char.ofNat := by rw [head_is, String.toList_ofList]

theorem make_cut (P : Program) (rest : List (List Char)) (h : behindMainWord (wordsSigns P.initOrder.toList) = ['c', 'u', 't'] :: rest) : (P.make == some Make.cut) = true := by
  unfold Program.make
  rw [h]
  kernel_rfl
theorem lifts_cut (P : Program) (rest : List (List Char)) (h : behindMainWord (wordsSigns P.initOrder.toList) = ['c', 'u', 't'] :: rest) : (false == P.liftsFinal) = true := by
  unfold Program.liftsFinal Program.headLifts
  rw [h]
  kernel_rfl
theorem mayEnter_cut (P : Program) (rest : List (List Char)) (h : behindMainWord (wordsSigns P.initOrder.toList) = ['c', 'u', 't'] :: rest) (h1 : P.laysLater = false) (h2 : P.bearsReflect = false) (h3 : P.doorRows = []) : P.mayEnter = true := by
  unfold Program.mayEnter Program.doorFits
  rw [h, h1, h2, h3]
  kernel_rfl
theorem head_words : behindMainWord (wordsSigns Try.prog.initOrder.toList) = ['c', 'u', 't'] :: (behindMainWord (wordsSigns (headCodes.map Char.ofNat))).tail := by
  rw [head_signs]
  kernel_rfl
theorem head_later : Try.prog.laysLater = false := by kernel_rfl
theorem head_reflect : Try.prog.bearsReflect = false := by kernel_rfl
theorem head_doors : Try.prog.doorRows = [] := by kernel_rfl
theorem head_make : (Try.prog.make == some Make.cut) = true := make_cut _ _ head_words
theorem head_lifts : (false == Try.prog.liftsFinal) = true := lifts_cut _ _ head_words
theorem head_mayEnter : Try.prog.mayEnter = true := mayEnter_cut _ _ head_words head_later head_reflect head_doors
theorem and_mk {a b : Bool} (ha : a = true) (hb : b = true) : (a && b) = true := by rw [ha, hb]; rfl
end Go.Proofs.Qxb6604363a
