/-
  THE PROGRAM's HEAD: three of the row's closed facts ('make', 'lifted', 'mayEnter') by laws over any program: read as a list of signs the head line costs the kernel little; as a string it outgrows the memory lid.
-/
import Derived.Test.Qxb6001672aRows
import Derived.JoinedOf
import Derived.ProofKit
set_option linter.unusedVariables false
set_option maxRecDepth 100000
namespace Go.Proofs.Qxb6001672a
open Go
theorem head_c1 : ("cut".toList == "gc".toList || "cut".toList == "spec".toList) = false := by kernel_rfl
theorem head_c2 (x : Bool) : ("cut".toList == "cut".toList || x) = true := by kernel_rfl
theorem head_st (r : List (List Char)) : stripLifts liftWords ("cut".toList :: r) = ([], "cut".toList :: r) := by kernel_rfl
theorem make_cut (P : Program) (l : List Char) (r : List (List Char)) (h : P.initOrder.toList = l) (hw : behindMainWord (wordsSigns l) = "cut".toList :: r) : P.make = some .cut := by
  unfold Program.make
  rw [h, hw]
  dsimp only
  rw [head_c1, head_c2]
  rfl
theorem lifts_cut (P : Program) (l : List Char) (r : List (List Char)) (h : P.initOrder.toList = l) (hw : behindMainWord (wordsSigns l) = "cut".toList :: r) : P.headLifts = [] := by
  unfold Program.headLifts
  rw [h, hw, head_st]
  simp
theorem final_cut (P : Program) (l : List Char) (r : List (List Char)) (h : P.initOrder.toList = l) (hw : behindMainWord (wordsSigns l) = "cut".toList :: r) : P.liftsFinal = false := by
  unfold Program.liftsFinal
  rw [lifts_cut P l r h hw, h, hw]
  simp
theorem may_cut (P : Program) (l : List Char) (r : List (List Char)) (h : P.initOrder.toList = l) (hw : behindMainWord (wordsSigns l) = "cut".toList :: r)
    (ll : P.laysLater = false) (br : P.bearsReflect = false) (df : P.doorFits [] = true) : P.mayEnter = true := by
  unfold Program.mayEnter
  rw [h, hw]
  dsimp only
  rw [head_st]
  dsimp only
  rw [ll, br, df]
  simp
/-- The program's head line, as a list of signs: 'String.toList' on so long a text is dear for the kernel. -/
def ioNums : List Nat := [104, 97, 114, 110, 101, 115, 115, 32, 97, 54, 53, 56, 51, 54, 101, 102, 97, 55, 49, 50, 56, 102, 100, 55, 50, 50, 50, 55, 55, 100, 53, 53, 97, 57, 100, 48, 99, 53, 101, 57, 101, 54, 53, 54, 101, 99, 98, 55, 56, 55, 102, 52, 49, 97, 52, 57, 97, 48, 57, 97, 56, 49, 54, 50, 98, 97, 56, 51, 52, 100, 50, 101, 32, 99, 117, 116, 32, 97, 116, 32, 101, 120, 97, 109, 112, 108, 101, 46, 99, 111, 109, 47, 99, 104, 114, 111, 110, 111, 114, 111, 119, 47, 99, 104, 114, 111, 110, 111, 114, 111, 119, 47, 122, 122, 108, 97, 119, 115, 95, 114, 111, 111, 116, 95, 103, 49, 46, 70, 110, 87, 105, 110, 100, 111, 119, 73, 115, 84, 104, 101, 82, 111, 119, 115, 65, 102, 116, 101, 114, 79, 102, 102, 115, 101, 116, 85, 112, 84, 111, 67, 111, 117, 110, 116, 32, 101, 120, 97, 109, 112, 108, 101, 46, 99, 111, 109, 47, 99, 104, 114, 111, 110, 111, 114, 111, 119, 47, 99, 104, 114, 111, 110, 111, 114, 111, 119, 47, 122, 122, 108, 97, 119, 115, 95, 114, 111, 111, 116, 95, 103, 49, 46, 70, 110, 87, 105, 116, 104, 73, 115, 65, 110, 79, 118, 101, 114, 114, 105, 100, 101, 77, 111, 110, 111, 105, 100, 32, 101, 120, 97, 109, 112, 108, 101, 46, 99, 111, 109, 47, 99, 104, 114, 111, 110, 111, 114, 111, 119, 47, 99, 104, 114, 111, 110, 111, 114, 111, 119, 47, 122, 122, 108, 97, 119, 115, 95, 114, 111, 111, 116, 95, 103, 50, 46, 70, 110, 83, 116, 97, 116, 101, 115, 73, 100, 101, 109, 112, 111, 116, 101, 110, 116, 65, 110, 100, 80, 108, 97, 105, 110, 77, 101, 97, 110, 115, 73, 110, 116, 101, 103, 101, 114, 115, 32, 101, 120, 97, 109, 112, 108, 101, 46, 99, 111, 109, 47, 99, 104, 114, 111, 110, 111, 114, 111, 119, 47, 99, 104, 114, 111, 110, 111, 114, 111, 119, 47, 122, 122, 108, 97, 119, 115, 95, 114, 111, 111, 116, 95, 103, 50, 46, 70, 110, 75, 101, 121, 101, 100, 72, 97, 110, 103, 115, 79, 110, 70, 105, 114, 115, 116, 79, 114, 100, 101, 114, 73, 116, 101, 109, 65, 108, 111, 110, 101, 32, 101, 120, 97, 109, 112, 108, 101, 46, 99, 111, 109, 47, 99, 104, 114, 111, 110, 111, 114, 111, 119, 47, 99, 104, 114, 111, 110, 111, 114, 111, 119, 47, 122, 122, 108, 97, 119, 115, 95, 105, 110, 116, 101, 114, 110, 97, 108, 95, 101, 110, 103, 105, 110, 101, 95, 103, 49, 46, 70, 110, 67, 111, 108, 117, 109, 110, 82, 101, 97, 100, 73, 110, 118, 101, 114, 116, 115, 80, 97, 99, 107, 105, 110, 103, 32, 101, 120, 97, 109, 112, 108, 101, 46, 99, 111, 109, 47, 99, 104, 114, 111, 110, 111, 114, 111, 119, 47, 99, 104, 114, 111, 110, 111, 114, 111, 119, 47, 122, 122, 108, 97, 119, 115, 95, 105, 110, 116, 101, 114, 110, 97, 108, 95, 101, 110, 103, 105, 110, 101, 95, 103, 49, 46, 70, 110, 69, 109, 112, 116, 105, 101, 100, 72, 111, 108, 100, 115, 78, 111, 82, 111, 119, 115, 32, 101, 120, 97, 109, 112, 108, 101, 46, 99, 111, 109, 47, 99, 104, 114, 111, 110, 111, 114, 111, 119, 47, 99, 104, 114, 111, 110, 111, 114, 111, 119, 47, 122, 122, 108, 97, 119, 115, 95, 114, 111, 111, 116, 95, 103, 49, 46, 70, 110, 65, 112, 112, 108, 121, 73, 115, 75, 108, 101, 101, 110, 101, 80, 101, 114, 82, 111, 119, 32, 101, 120, 97, 109, 112, 108, 101, 46, 99, 111, 109, 47, 99, 104, 114, 111, 110, 111, 114, 111, 119, 47, 99, 104, 114, 111, 110, 111, 114, 111, 119, 47, 122, 122, 108, 97, 119, 115, 95, 114, 111, 111, 116, 95, 103, 49, 46, 70, 110, 65, 112, 112, 108, 121, 70, 97, 115, 116, 80, 97, 116, 104, 65, 103, 114, 101, 101, 115, 87, 105, 116, 104, 83, 116, 97, 116, 101, 100, 32, 101, 120, 97, 109, 112, 108, 101, 46, 99, 111, 109, 47, 99, 104, 114, 111, 110, 111, 114, 111, 119, 47, 99, 104, 114, 111, 110, 111, 114, 111, 119, 47, 122, 122, 108, 97, 119, 115, 95, 114, 111, 111, 116, 95, 103, 49, 46, 70, 110, 83, 116, 97, 116, 101, 79, 102, 65, 103, 114, 101, 101, 115, 87, 105, 116, 104, 65, 112, 112, 108, 121]
theorem io_str : Try.prog.initOrder = String.ofList (ioNums.map Char.ofNat) := by kernel_rfl
theorem io : Try.prog.initOrder.toList = ioNums.map Char.ofNat := by rw [io_str, String.toList_ofList]

theorem head_words : behindMainWord (wordsSigns (ioNums.map Char.ofNat)) = ("cut".toList :: (behindMainWord (wordsSigns (ioNums.map Char.ofNat))).tail) := by kernel_rfl
theorem head_make : Try.prog.make = some .cut := make_cut Try.prog _ _ io head_words
theorem head_final : Try.prog.liftsFinal = false := final_cut Try.prog _ _ io head_words
theorem head_may : Try.prog.mayEnter = true := may_cut Try.prog _ _ io head_words (by kernel_rfl) (by kernel_rfl) (by kernel_rfl)
theorem and2 {a b : Bool} (ha : a = true) (hb : b = true) : (a && b) = true := by rw [ha, hb]; rfl
end Go.Proofs.Qxb6001672a
