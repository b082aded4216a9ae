/-
  THE CLONES (functions 26, 27, 28, 33: make and copy).
-/
import Derived.Test.Qxb6001672aRows
import Derived.Test.Qxb6001672aMem
namespace Go.Proofs.Qxb6001672a
open Go.RowKit
theorem info2 : (Try.prog.info? 2).map (fun i => (i.zero, i.size, i.bytes)) = some (some (.int .i64 0), 1, 8) := by kernel_rfl
theorem info4 : (Try.prog.info? 4).map (fun i => (i.zero, i.size, i.bytes)) = some (some (.bool false), 1, 1) := by kernel_rfl
theorem size2 : (Try.prog.info? 2).map (·.size) = some 1 := by kernel_rfl
theorem size4 : (Try.prog.info? 4).map (·.size) = some 1 := by kernel_rfl
theorem size9 : (Try.prog.info? 9).map (·.size) = some 1 := by kernel_rfl
theorem size3 : (Try.prog.info? 3).map (·.size) = some 1 := by kernel_rfl
theorem info9 : (Try.prog.info? 9).map (fun i => (i.zero, i.size, i.bytes)) = some (some (.string ByteArray.empty), 1, 16) := by kernel_rfl
theorem info3 : (Try.prog.info? 3).map (fun i => (i.zero, i.size, i.bytes)) = some (some (.int .i64 0), 1, 8) := by kernel_rfl

/-- What a clone hands back. -/
def Cloned (w : World) (xs : List Value) (t : TypeId) (e : Ending) (w' : World) : Prop :=
  ∃ p, e = .returned (.slice p xs.length xs.length) ∧ (0 < xs.length → p = some ⟨w.heap.size, 0, none⟩ ∧ Blk w' w.heap.size xs t) ∧ Kp [] w w'

set_option maxRecDepth 100000 in
set_option maxHeartbeats 400000 in
theorem clone26 (p : Option Addr) (n c : Nat) (xs : List Value) (w : World) (hn : n ≤ 1048576) (hl : xs.length = n) (hp : Src w p xs) (hp0 : p = none → n = 0 ∧ c = 0)
    (h1 : ∀ v ∈ xs, v.oneCell' = true) :
    Calls Try.prog 26 #[.slice p n c] w (Cloned w xs 4) := by
  subst hl
  have hmk := fun w => run_make_row' (P := Try.prog) 38 4 (.bool false) 1 Try.underlying38 info4 rfl .i64 .i64 xs.length (by omega) (by omega) w
  cases p with
  | none =>
    obtain ⟨h0, rfl⟩ := hp0 rfl
    obtain rfl : xs = [] := List.eq_nil_of_length_eq_zero h0
    have hnil : ∀ w, (binOp .eql 38 (.slice none 0 0) (.slice none 0 0)).run Try.prog w = .ok (.bool true) w := fun w => by
      rw [Lib.run_eql_slice_nil w 38 4 _ _ _ _ _ Try.underlying38]; rfl
    go_enter Try.func26, Try.ntmps26
    go_wp2
    go_ret
    exact ⟨none, rfl, fun h => by simp at h, Kp.refl _ _⟩
  | some a =>
    have hnil : ∀ w, (binOp .eql 38 (.slice (some a) xs.length c) (.slice none 0 0)).run Try.prog w = .ok (.bool false) w := fun w => by
      rw [Lib.run_eql_slice_nil w 38 4 _ _ _ _ _ Try.underlying38]; rfl
    go_enter Try.func26, Try.ntmps26
    have hK : Kp [] w (w.alloc (.cells (madeCells #[.bool false] xs.length) 4)) := (Kp.refl _ _).alloc _
    have hB : Blk (w.alloc (.cells (madeCells #[.bool false] xs.length) 4)) w.heap.size (List.replicate xs.length (.bool false)) 4 := by
      have := Blk.new w (madeCells #[.bool false] xs.length) 4
      rwa [made_list] at this
    have hS := hp.kp hK (by simp)
    go_wp2_with (refine wpList_copy_blk rfl (.tmp 9) (.tmp 10) 38 38 rfl 4 Try.underlying38 size4 _ _ _ _ _ _ rfl rfl w.heap.size _ 4 hB xs (by simp) (fun _ => rfl) hS (by simp) h1 ?_; intro w1 hB1 hK1 hs1)
    go_ret
    refine ⟨_, rfl, fun _ => ⟨rfl, by simpa using hB1⟩, hK.then hK1 (by simp)⟩
  
set_option maxRecDepth 100000 in
set_option maxHeartbeats 400000 in
theorem clone27 (p : Option Addr) (n c : Nat) (xs : List Value) (w : World) (hn : n ≤ 1048576) (hl : xs.length = n) (hp : Src w p xs) (hp0 : p = none → n = 0 ∧ c = 0)
    (h1 : ∀ v ∈ xs, v.oneCell' = true) :
    Calls Try.prog 27 #[.slice p n c] w (Cloned w xs 2) := by
  subst hl
  have hmk := fun w => run_make_row' (P := Try.prog) 27 2 (.int .i64 0) 8 Try.underlying27 info2 rfl .i64 .i64 xs.length (by omega) (by omega) w
  cases p with
  | none =>
    obtain ⟨h0, rfl⟩ := hp0 rfl
    obtain rfl : xs = [] := List.eq_nil_of_length_eq_zero h0
    have hnil : ∀ w, (binOp .eql 27 (.slice none 0 0) (.slice none 0 0)).run Try.prog w = .ok (.bool true) w := fun w => by
      rw [Lib.run_eql_slice_nil w 27 2 _ _ _ _ _ Try.underlying27]; rfl
    go_enter Try.func27, Try.ntmps27
    go_wp2
    go_ret
    exact ⟨none, rfl, fun h => by simp at h, Kp.refl _ _⟩
  | some a =>
    have hnil : ∀ w, (binOp .eql 27 (.slice (some a) xs.length c) (.slice none 0 0)).run Try.prog w = .ok (.bool false) w := fun w => by
      rw [Lib.run_eql_slice_nil w 27 2 _ _ _ _ _ Try.underlying27]; rfl
    go_enter Try.func27, Try.ntmps27
    have hK : Kp [] w (w.alloc (.cells (madeCells #[.int .i64 0] xs.length) 2)) := (Kp.refl _ _).alloc _
    have hB : Blk (w.alloc (.cells (madeCells #[.int .i64 0] xs.length) 2)) w.heap.size (List.replicate xs.length (.int .i64 0)) 2 := by
      have := Blk.new w (madeCells #[.int .i64 0] xs.length) 2
      rwa [made_list] at this
    have hS := hp.kp hK (by simp)
    go_wp2_with (refine wpList_copy_blk rfl (.tmp 9) (.tmp 10) 27 27 rfl 2 Try.underlying27 size2 _ _ _ _ _ _ rfl rfl w.heap.size _ 2 hB xs (by simp) (fun _ => rfl) hS (by simp) h1 ?_; intro w1 hB1 hK1 hs1)
    go_ret
    refine ⟨_, rfl, fun _ => ⟨rfl, by simpa using hB1⟩, hK.then hK1 (by simp)⟩
  
set_option maxRecDepth 100000 in
set_option maxHeartbeats 400000 in
theorem clone28 (p : Option Addr) (n c : Nat) (xs : List Value) (w : World) (hn : n ≤ 1048576) (hl : xs.length = n) (hp : Src w p xs) (hp0 : p = none → n = 0 ∧ c = 0)
    (h1 : ∀ v ∈ xs, v.oneCell' = true) :
    Calls Try.prog 28 #[.slice p n c] w (Cloned w xs 9) := by
  subst hl
  have hmk := fun w => run_make_row' (P := Try.prog) 48 9 (.string ByteArray.empty) 16 Try.underlying48 info9 rfl .i64 .i64 xs.length (by omega) (by omega) w
  cases p with
  | none =>
    obtain ⟨h0, rfl⟩ := hp0 rfl
    obtain rfl : xs = [] := List.eq_nil_of_length_eq_zero h0
    have hnil : ∀ w, (binOp .eql 48 (.slice none 0 0) (.slice none 0 0)).run Try.prog w = .ok (.bool true) w := fun w => by
      rw [Lib.run_eql_slice_nil w 48 9 _ _ _ _ _ Try.underlying48]; rfl
    go_enter Try.func28, Try.ntmps28
    go_wp2
    go_ret
    exact ⟨none, rfl, fun h => by simp at h, Kp.refl _ _⟩
  | some a =>
    have hnil : ∀ w, (binOp .eql 48 (.slice (some a) xs.length c) (.slice none 0 0)).run Try.prog w = .ok (.bool false) w := fun w => by
      rw [Lib.run_eql_slice_nil w 48 9 _ _ _ _ _ Try.underlying48]; rfl
    go_enter Try.func28, Try.ntmps28
    have hK : Kp [] w (w.alloc (.cells (madeCells #[.string ByteArray.empty] xs.length) 9)) := (Kp.refl _ _).alloc _
    have hB : Blk (w.alloc (.cells (madeCells #[.string ByteArray.empty] xs.length) 9)) w.heap.size (List.replicate xs.length (.string ByteArray.empty)) 9 := by
      have := Blk.new w (madeCells #[.string ByteArray.empty] xs.length) 9
      rwa [made_list] at this
    have hS := hp.kp hK (by simp)
    go_wp2_with (refine wpList_copy_blk rfl (.tmp 9) (.tmp 10) 48 48 rfl 9 Try.underlying48 size9 _ _ _ _ _ _ rfl rfl w.heap.size _ 9 hB xs (by simp) (fun _ => rfl) hS (by simp) h1 ?_; intro w1 hB1 hK1 hs1)
    go_ret
    refine ⟨_, rfl, fun _ => ⟨rfl, by simpa using hB1⟩, hK.then hK1 (by simp)⟩
  
set_option maxRecDepth 100000 in
set_option maxHeartbeats 400000 in
theorem clone33 (p : Option Addr) (n c : Nat) (xs : List Value) (w : World) (hn : n ≤ 1048576) (hl : xs.length = n) (hp : Src w p xs) (hp0 : p = none → n = 0 ∧ c = 0)
    (h1 : ∀ v ∈ xs, v.oneCell' = true) :
    Calls Try.prog 33 #[.slice p n c] w (Cloned w xs 3) := by
  subst hl
  have hmk := fun w => run_make_row' (P := Try.prog) 37 3 (.int .i64 0) 8 Try.underlying37 info3 rfl .i64 .i64 xs.length (by omega) (by omega) w
  cases p with
  | none =>
    obtain ⟨h0, rfl⟩ := hp0 rfl
    obtain rfl : xs = [] := List.eq_nil_of_length_eq_zero h0
    have hnil : ∀ w, (binOp .eql 37 (.slice none 0 0) (.slice none 0 0)).run Try.prog w = .ok (.bool true) w := fun w => by
      rw [Lib.run_eql_slice_nil w 37 3 _ _ _ _ _ Try.underlying37]; rfl
    go_enter Try.func33, Try.ntmps33
    go_wp2
    go_ret
    exact ⟨none, rfl, fun h => by simp at h, Kp.refl _ _⟩
  | some a =>
    have hnil : ∀ w, (binOp .eql 37 (.slice (some a) xs.length c) (.slice none 0 0)).run Try.prog w = .ok (.bool false) w := fun w => by
      rw [Lib.run_eql_slice_nil w 37 3 _ _ _ _ _ Try.underlying37]; rfl
    go_enter Try.func33, Try.ntmps33
    have hK : Kp [] w (w.alloc (.cells (madeCells #[.int .i64 0] xs.length) 3)) := (Kp.refl _ _).alloc _
    have hB : Blk (w.alloc (.cells (madeCells #[.int .i64 0] xs.length) 3)) w.heap.size (List.replicate xs.length (.int .i64 0)) 3 := by
      have := Blk.new w (madeCells #[.int .i64 0] xs.length) 3
      rwa [made_list] at this
    have hS := hp.kp hK (by simp)
    go_wp2_with (refine wpList_copy_blk rfl (.tmp 9) (.tmp 10) 37 37 rfl 3 Try.underlying37 size3 _ _ _ _ _ _ rfl rfl w.heap.size _ 3 hB xs (by simp) (fun _ => rfl) hS (by simp) h1 ?_; intro w1 hB1 hK1 hs1)
    go_ret
    refine ⟨_, rfl, fun _ => ⟨rfl, by simpa using hB1⟩, hK.then hK1 (by simp)⟩
  
end Go.Proofs.Qxb6001672a
