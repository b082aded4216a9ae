/-
  THE PROGRAM's HEAD: three of the row's closed facts ('make', 'lifted', 'mayEnter') by laws over any program: read as a list of signs the head line costs the kernel little; as a string it outgrows the memory lid.
-/
import Derived.Test.Qxb6601372aRows
import Derived.JoinedOf
import Derived.ProofKit
set_option linter.unusedVariables false
set_option maxRecDepth 100000
namespace Go.Proofs.Qxb6601372a
open Go
theorem head_c1 : ("cut".toList == "gc".toList || "cut".toList == "spec".toList) = false := by kernel_rfl
theorem head_c2 (x : Bool) : ("cut".toList == "cut".toList || x) = true := by kernel_rfl
theorem head_st (r : List (List Char)) : stripLifts liftWords ("cut".toList :: r) = ([], "cut".toList :: r) := by kernel_rfl
theorem make_cut (P : Program) (l : List Char) (r : List (List Char)) (h : P.initOrder.toList = l) (hw : behindMainWord (wordsSigns l) = "cut".toList :: r) : P.make = some .cut := by
  unfold Program.make
  rw [h, hw]
  dsimp only
  rw [head_c1, head_c2]
  rfl
theorem lifts_cut (P : Program) (l : List Char) (r : List (List Char)) (h : P.initOrder.toList = l) (hw : behindMainWord (wordsSigns l) = "cut".toList :: r) : P.headLifts = [] := by
  unfold Program.headLifts
  rw [h, hw, head_st]
  simp
theorem final_cut (P : Program) (l : List Char) (r : List (List Char)) (h : P.initOrder.toList = l) (hw : behindMainWord (wordsSigns l) = "cut".toList :: r) : P.liftsFinal = false := by
  unfold Program.liftsFinal
  rw [lifts_cut P l r h hw, h, hw]
  simp
theorem may_cut (P : Program) (l : List Char) (r : List (List Char)) (h : P.initOrder.toList = l) (hw : behindMainWord (wordsSigns l) = "cut".toList :: r)
    (ll : P.laysLater = false) (br : P.bearsReflect = false) (df : P.doorFits [] = true) : P.mayEnter = true := by
  unfold Program.mayEnter
  rw [h, hw]
  dsimp only
  rw [head_st]
  dsimp only
  rw [ll, br, df]
  simp
/-- The program's head line, as a list of signs: 'String.toList' on so long a text is dear for the kernel. -/
def ioNums : List Nat := [104, 97, 114, 110, 101, 115, 115, 32, 55, 52, 99, 51, 101, 98, 54, 52, 48, 48, 51, 53, 50, 55, 50, 52, 100, 52, 56, 99, 50, 100, 55, 99, 100, 48, 54, 55, 54, 102, 56, 52, 48, 48, 101, 102, 49, 99, 100, 55, 102, 51, 52, 55, 53, 56, 52, 100, 48, 99, 97, 53, 55, 97, 57, 100, 102, 53, 98, 98, 54, 48, 52, 57, 32, 99, 117, 116, 32, 97, 116, 32, 101, 120, 97, 109, 112, 108, 101, 46, 99, 111, 109, 47, 104, 111, 108, 100, 102, 97, 115, 116, 47, 104, 111, 108, 100, 102, 97, 115, 116, 47, 122, 122, 108, 97, 119, 115, 95, 114, 111, 111, 116, 95, 98, 49, 46, 70, 110, 70, 108, 97, 116, 78, 97, 109, 101, 73, 115, 66, 121, 116, 101, 84, 101, 115, 116, 32, 101, 120, 97, 109, 112, 108, 101, 46, 99, 111, 109, 47, 104, 111, 108, 100, 102, 97, 115, 116, 47, 104, 111, 108, 100, 102, 97, 115, 116, 47, 122, 122, 108, 97, 119, 115, 95, 114, 111, 111, 116, 95, 98, 49, 46, 70, 110, 70, 108, 97, 116, 78, 97, 109, 101, 67, 111, 110, 99, 97, 116, 32, 101, 120, 97, 109, 112, 108, 101, 46, 99, 111, 109, 47, 104, 111, 108, 100, 102, 97, 115, 116, 47, 104, 111, 108, 100, 102, 97, 115, 116, 47, 122, 122, 108, 97, 119, 115, 95, 114, 111, 111, 116, 95, 98, 49, 46, 70, 110, 87, 101, 97, 107, 101, 115, 116, 67, 111, 118, 101, 114, 105, 110, 103, 77, 97, 116, 99, 104, 101, 115, 77, 111, 100, 101, 108, 32, 101, 120, 97, 109, 112, 108, 101, 46, 99, 111, 109, 47, 104, 111, 108, 100, 102, 97, 115, 116, 47, 104, 111, 108, 100, 102, 97, 115, 116, 47, 122, 122, 108, 97, 119, 115, 95, 114, 111, 111, 116, 95, 98, 49, 46, 70, 110, 87, 101, 97, 107, 101, 115, 116, 67, 111, 118, 101, 114, 105, 110, 103, 65, 98, 115, 111, 114, 98, 115, 32, 101, 120, 97, 109, 112, 108, 101, 46, 99, 111, 109, 47, 104, 111, 108, 100, 102, 97, 115, 116, 47, 104, 111, 108, 100, 102, 97, 115, 116, 47, 122, 122, 108, 97, 119, 115, 95, 114, 111, 111, 116, 95, 98, 49, 46, 70, 110, 82, 101, 109, 111, 118, 101, 67, 111, 117, 110, 116, 115, 79, 110, 101, 70, 101, 119, 101, 114, 32, 101, 120, 97, 109, 112, 108, 101, 46, 99, 111, 109, 47, 104, 111, 108, 100, 102, 97, 115, 116, 47, 104, 111, 108, 100, 102, 97, 115, 116, 47, 122, 122, 108, 97, 119, 115, 95, 114, 111, 111, 116, 95, 98, 49, 46, 70, 110, 82, 101, 109, 111, 118, 101, 69, 97, 99, 104, 67, 111, 117, 110, 116, 69, 109, 112, 116, 105, 101, 115]
theorem io_str : Try.prog.initOrder = String.ofList (ioNums.map Char.ofNat) := by kernel_rfl
theorem io : Try.prog.initOrder.toList = ioNums.map Char.ofNat := by rw [io_str, String.toList_ofList]

theorem head_words : behindMainWord (wordsSigns (ioNums.map Char.ofNat)) = ("cut".toList :: (behindMainWord (wordsSigns (ioNums.map Char.ofNat))).tail) := by kernel_rfl
theorem head_make : Try.prog.make = some .cut := make_cut Try.prog _ _ io head_words
theorem head_final : Try.prog.liftsFinal = false := final_cut Try.prog _ _ io head_words
theorem head_may : Try.prog.mayEnter = true := may_cut Try.prog _ _ io head_words (by kernel_rfl) (by kernel_rfl) (by kernel_rfl)
theorem and2 {a b : Bool} (ha : a = true) (hb : b = true) : (a && b) = true := by rw [ha, hb]; rfl
end Go.Proofs.Qxb6601372a
