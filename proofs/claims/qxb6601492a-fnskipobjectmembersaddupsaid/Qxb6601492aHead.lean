/-
  THE PROGRAM's HEAD: three of the row's closed facts ('make', 'lifted', 'mayEnter') by laws over any program: read as a list of signs the head line costs the kernel little; as a string it outgrows the memory lid.
-/
import Derived.Test.Qxb6601492aRows
import Derived.JoinedOf
import Derived.ProofKit
set_option linter.unusedVariables false
set_option maxRecDepth 100000
namespace Go.Proofs.Qxb6601492a
open Go
theorem head_c1 : ("cut".toList == "gc".toList || "cut".toList == "spec".toList) = false := by kernel_rfl
theorem head_c2 (x : Bool) : ("cut".toList == "cut".toList || x) = true := by kernel_rfl
theorem head_st (r : List (List Char)) : stripLifts liftWords ("cut".toList :: r) = ([], "cut".toList :: r) := by kernel_rfl
theorem make_cut (P : Program) (l : List Char) (r : List (List Char)) (h : P.initOrder.toList = l) (hw : behindMainWord (wordsSigns l) = "cut".toList :: r) : P.make = some .cut := by
  unfold Program.make
  rw [h, hw]
  dsimp only
  rw [head_c1, head_c2]
  rfl
theorem lifts_cut (P : Program) (l : List Char) (r : List (List Char)) (h : P.initOrder.toList = l) (hw : behindMainWord (wordsSigns l) = "cut".toList :: r) : P.headLifts = [] := by
  unfold Program.headLifts
  rw [h, hw, head_st]
  simp
theorem final_cut (P : Program) (l : List Char) (r : List (List Char)) (h : P.initOrder.toList = l) (hw : behindMainWord (wordsSigns l) = "cut".toList :: r) : P.liftsFinal = false := by
  unfold Program.liftsFinal
  rw [lifts_cut P l r h hw, h, hw]
  simp
theorem may_cut (P : Program) (l : List Char) (r : List (List Char)) (h : P.initOrder.toList = l) (hw : behindMainWord (wordsSigns l) = "cut".toList :: r)
    (ll : P.laysLater = false) (br : P.bearsReflect = false) (df : P.doorFits [] = true) : P.mayEnter = true := by
  unfold Program.mayEnter
  rw [h, hw]
  dsimp only
  rw [head_st]
  dsimp only
  rw [ll, br, df]
  simp
/-- The program's head line, as a list of signs: 'String.toList' on so long a text is dear for the kernel. -/
def ioNums : List Nat := [104, 97, 114, 110, 101, 115, 115, 32, 51, 56, 56, 49, 54, 57, 56, 100, 99, 102, 98, 98, 53, 49, 54, 56, 49, 52, 50, 49, 57, 54, 49, 99, 57, 98, 98, 54, 57, 53, 55, 56, 51, 55, 98, 102, 54, 51, 48, 101, 99, 50, 101, 56, 57, 99, 48, 98, 102, 53, 54, 100, 54, 99, 101, 97, 52, 50, 102, 54, 98, 55, 49, 57, 32, 99, 117, 116, 32, 97, 116, 32, 101, 120, 97, 109, 112, 108, 101, 46, 99, 111, 109, 47, 97, 116, 116, 117, 110, 101, 47, 97, 116, 116, 117, 110, 101, 47, 122, 122, 108, 97, 119, 115, 95, 105, 110, 116, 101, 114, 110, 97, 108, 95, 115, 116, 114, 105, 99, 116, 106, 115, 111, 110, 95, 98, 49, 46, 70, 110, 83, 107, 105, 112, 73, 115, 74, 83, 79, 78, 86, 97, 108, 117, 101, 69, 110, 100, 32, 101, 120, 97, 109, 112, 108, 101, 46, 99, 111, 109, 47, 97, 116, 116, 117, 110, 101, 47, 97, 116, 116, 117, 110, 101, 47, 122, 122, 108, 97, 119, 115, 95, 105, 110, 116, 101, 114, 110, 97, 108, 95, 115, 116, 114, 105, 99, 116, 106, 115, 111, 110, 95, 98, 49, 46, 70, 110, 83, 107, 105, 112, 79, 98, 106, 101, 99, 116, 77, 101, 109, 98, 101, 114, 115, 65, 100, 100, 85, 112, 32, 101, 120, 97, 109, 112, 108, 101, 46, 99, 111, 109, 47, 97, 116, 116, 117, 110, 101, 47, 97, 116, 116, 117, 110, 101, 47, 122, 122, 108, 97, 119, 115, 95, 105, 110, 116, 101, 114, 110, 97, 108, 95, 115, 116, 114, 105, 99, 116, 106, 115, 111, 110, 95, 98, 49, 46, 70, 110, 83, 107, 105, 112, 83, 116, 114, 105, 110, 103, 70, 105, 114, 115, 116, 85, 110, 101, 115, 99, 97, 112, 101, 100, 81, 117, 111, 116, 101, 32, 101, 120, 97, 109, 112, 108, 101, 46, 99, 111, 109, 47, 97, 116, 116, 117, 110, 101, 47, 97, 116, 116, 117, 110, 101, 47, 122, 122, 108, 97, 119, 115, 95, 105, 110, 116, 101, 114, 110, 97, 108, 95, 115, 116, 114, 105, 99, 116, 106, 115, 111, 110, 95, 98, 49, 46, 70, 110, 65, 112, 112, 101, 110, 100, 85, 110, 105, 116, 87, 114, 105, 116, 101, 115, 79, 110, 101, 67, 97, 110, 111, 110, 105, 99, 97, 108, 85, 110, 105, 116, 32, 101, 120, 97, 109, 112, 108, 101, 46, 99, 111, 109, 47, 97, 116, 116, 117, 110, 101, 47, 97, 116, 116, 117, 110, 101, 47, 122, 122, 108, 97, 119, 115, 95, 105, 110, 116, 101, 114, 110, 97, 108, 95, 115, 116, 114, 105, 99, 116, 106, 115, 111, 110, 95, 98, 49, 46, 70, 110, 67, 97, 110, 111, 110, 105, 99, 97, 108, 83, 116, 114, 105, 110, 103, 82, 111, 117, 110, 100, 84, 114, 105, 112]
theorem io_str : Try.prog.initOrder = String.ofList (ioNums.map Char.ofNat) := by kernel_rfl
theorem io : Try.prog.initOrder.toList = ioNums.map Char.ofNat := by rw [io_str, String.toList_ofList]

theorem head_words : behindMainWord (wordsSigns (ioNums.map Char.ofNat)) = ("cut".toList :: (behindMainWord (wordsSigns (ioNums.map Char.ofNat))).tail) := by kernel_rfl
theorem head_make : Try.prog.make = some .cut := make_cut Try.prog _ _ io head_words
theorem head_final : Try.prog.liftsFinal = false := final_cut Try.prog _ _ io head_words
theorem head_may : Try.prog.mayEnter = true := may_cut Try.prog _ _ io head_words (by kernel_rfl) (by kernel_rfl) (by kernel_rfl)
theorem and2 {a b : Bool} (ha : a = true) (hb : b = true) : (a && b) = true := by rw [ha, hb]; rfl
end Go.Proofs.Qxb6601492a
