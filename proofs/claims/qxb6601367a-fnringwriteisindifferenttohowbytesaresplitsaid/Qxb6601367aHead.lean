/-
  THE PROGRAM's HEAD: three of the row's closed facts ('make', 'lifted', 'mayEnter') by laws over any program: read as a list of signs the head line costs the kernel little; as a string it outgrows the memory lid.
-/
import Derived.Test.Qxb6601367aRows
import Derived.JoinedOf
import Derived.ProofKit
set_option linter.unusedVariables false
set_option maxRecDepth 100000
namespace Go.Proofs.Qxb6601367a
open Go
theorem head_c1 : ("cut".toList == "gc".toList || "cut".toList == "spec".toList) = false := by kernel_rfl
theorem head_c2 (x : Bool) : ("cut".toList == "cut".toList || x) = true := by kernel_rfl
theorem head_st (r : List (List Char)) : stripLifts liftWords ("cut".toList :: r) = ([], "cut".toList :: r) := by kernel_rfl
theorem make_cut (P : Program) (l : List Char) (r : List (List Char)) (h : P.initOrder.toList = l) (hw : behindMainWord (wordsSigns l) = "cut".toList :: r) : P.make = some .cut := by
  unfold Program.make
  rw [h, hw]
  dsimp only
  rw [head_c1, head_c2]
  rfl
theorem lifts_cut (P : Program) (l : List Char) (r : List (List Char)) (h : P.initOrder.toList = l) (hw : behindMainWord (wordsSigns l) = "cut".toList :: r) : P.headLifts = [] := by
  unfold Program.headLifts
  rw [h, hw, head_st]
  simp
theorem final_cut (P : Program) (l : List Char) (r : List (List Char)) (h : P.initOrder.toList = l) (hw : behindMainWord (wordsSigns l) = "cut".toList :: r) : P.liftsFinal = false := by
  unfold Program.liftsFinal
  rw [lifts_cut P l r h hw, h, hw]
  simp
theorem may_cut (P : Program) (l : List Char) (r : List (List Char)) (h : P.initOrder.toList = l) (hw : behindMainWord (wordsSigns l) = "cut".toList :: r)
    (ll : P.laysLater = false) (br : P.bearsReflect = false) (df : P.doorFits [] = true) : P.mayEnter = true := by
  unfold Program.mayEnter
  rw [h, hw]
  dsimp only
  rw [head_st]
  dsimp only
  rw [ll, br, df]
  simp
/-- The program's head line, as a list of signs: 'String.toList' on so long a text is dear for the kernel. -/
def ioNums : List Nat := [104, 97, 114, 110, 101, 115, 115, 32, 51, 50, 97, 102, 51, 56, 53, 52, 48, 49, 54, 51, 99, 100, 102, 53, 99, 50, 98, 102, 57, 57, 49, 55, 52, 57, 50, 53, 100, 54, 49, 51, 98, 50, 48, 99, 101, 56, 97, 100, 97, 51, 54, 50, 55, 101, 99, 99, 56, 50, 99, 100, 98, 57, 49, 101, 48, 101, 97, 102, 101, 102, 102, 49, 32, 99, 117, 116, 32, 97, 116, 32, 101, 120, 97, 109, 112, 108, 101, 46, 99, 111, 109, 47, 100, 114, 111, 118, 101, 114, 47, 100, 114, 111, 118, 101, 114, 47, 122, 122, 108, 97, 119, 115, 95, 105, 110, 116, 101, 114, 110, 97, 108, 95, 115, 116, 111, 114, 101, 95, 98, 49, 46, 70, 110, 67, 117, 116, 73, 115, 84, 104, 101, 76, 101, 102, 116, 109, 111, 115, 116, 76, 111, 110, 103, 101, 115, 116, 83, 99, 97, 110, 32, 101, 120, 97, 109, 112, 108, 101, 46, 99, 111, 109, 47, 100, 114, 111, 118, 101, 114, 47, 100, 114, 111, 118, 101, 114, 47, 122, 122, 108, 97, 119, 115, 95, 105, 110, 116, 101, 114, 110, 97, 108, 95, 115, 116, 111, 114, 101, 95, 98, 49, 46, 70, 110, 67, 117, 116, 73, 110, 84, 119, 111, 67, 97, 108, 108, 115, 65, 103, 114, 101, 101, 115, 87, 105, 116, 104, 82, 101, 100, 97, 99, 116, 32, 101, 120, 97, 109, 112, 108, 101, 46, 99, 111, 109, 47, 100, 114, 111, 118, 101, 114, 47, 100, 114, 111, 118, 101, 114, 47, 122, 122, 108, 97, 119, 115, 95, 105, 110, 116, 101, 114, 110, 97, 108, 95, 115, 116, 111, 114, 101, 95, 98, 49, 46, 70, 110, 82, 101, 100, 97, 99, 116, 73, 115, 84, 104, 101, 76, 101, 102, 116, 109, 111, 115, 116, 76, 111, 110, 103, 101, 115, 116, 83, 99, 97, 110, 32, 101, 120, 97, 109, 112, 108, 101, 46, 99, 111, 109, 47, 100, 114, 111, 118, 101, 114, 47, 100, 114, 111, 118, 101, 114, 47, 122, 122, 108, 97, 119, 115, 95, 105, 110, 116, 101, 114, 110, 97, 108, 95, 115, 116, 111, 114, 101, 95, 98, 49, 46, 70, 110, 82, 101, 100, 97, 99, 116, 73, 115, 76, 111, 99, 97, 108, 65, 114, 111, 117, 110, 100, 65, 83, 101, 112, 97, 114, 97, 116, 111, 114, 32, 101, 120, 97, 109, 112, 108, 101, 46, 99, 111, 109, 47, 100, 114, 111, 118, 101, 114, 47, 100, 114, 111, 118, 101, 114, 47, 122, 122, 108, 97, 119, 115, 95, 105, 110, 116, 101, 114, 110, 97, 108, 95, 115, 116, 111, 114, 101, 95, 98, 49, 46, 70, 110, 82, 105, 110, 103, 87, 114, 105, 116, 101, 75, 101, 101, 112, 115, 84, 104, 101, 76, 97, 115, 116, 83, 105, 122, 101, 66, 121, 116, 101, 115, 32, 101, 120, 97, 109, 112, 108, 101, 46, 99, 111, 109, 47, 100, 114, 111, 118, 101, 114, 47, 100, 114, 111, 118, 101, 114, 47, 122, 122, 108, 97, 119, 115, 95, 105, 110, 116, 101, 114, 110, 97, 108, 95, 115, 116, 111, 114, 101, 95, 98, 49, 46, 70, 110, 82, 105, 110, 103, 87, 114, 105, 116, 101, 73, 115, 73, 110, 100, 105, 102, 102, 101, 114, 101, 110, 116, 84, 111, 72, 111, 119, 66, 121, 116, 101, 115, 65, 114, 101, 83, 112, 108, 105, 116]
theorem io_str : Try.prog.initOrder = String.ofList (ioNums.map Char.ofNat) := by kernel_rfl
theorem io : Try.prog.initOrder.toList = ioNums.map Char.ofNat := by rw [io_str, String.toList_ofList]

theorem head_words : behindMainWord (wordsSigns (ioNums.map Char.ofNat)) = ("cut".toList :: (behindMainWord (wordsSigns (ioNums.map Char.ofNat))).tail) := by kernel_rfl
theorem head_make : Try.prog.make = some .cut := make_cut Try.prog _ _ io head_words
theorem head_final : Try.prog.liftsFinal = false := final_cut Try.prog _ _ io head_words
theorem head_may : Try.prog.mayEnter = true := may_cut Try.prog _ _ io head_words (by kernel_rfl) (by kernel_rfl) (by kernel_rfl)
theorem and2 {a b : Bool} (ha : a = true) (hb : b = true) : (a && b) = true := by rw [ha, hb]; rfl
end Go.Proofs.Qxb6601367a
