/-
  The ring law's small functions: clone (22), ZZNewRing (23), ZZRingWrite (24), ZZRingBuf (25), ZZRingNext (26), ZZRingWritten (27), concat (16), eqBytes (14), zzBytes (28).
-/
import Derived.Test.Qxb6601367aWrite2
import Derived.Laws.AppendOwnNone
set_option linter.unusedSimpArgs false
set_option linter.unusedVariables false
namespace Go.Proofs.Qxb6601367a
open Go.RowKit

def Pure (w : World) (v : Value) (e : Ending) (w' : World) : Prop := w' = w ∧ e = .returned v
def SomeBool (w : World) (e : Ending) (w' : World) : Prop := w' = w ∧ ∃ b, e = .returned (.bool b)

/-- What a clone hands back. -/
def CB (w : World) (base : Nat) (p : Option Addr) (n : Nat) (xs : List Value) (e : Ending) (w' : World) : Prop :=
  ∃ v, e = .returned v ∧ w'.ownsRow base 5 1 v n xs ∧ (v = .slice none 0 0 ↔ p = none) ∧ (∀ g, v.ownBlock = some g → w.heap.size ≤ g) ∧ Kp [] w w'

theorem own_of_blk {w : World} {base g n cap : Nat} {cur xs : List Value} (hB : Blk w g cur 5) (hb : base ≤ g) (h1 : n ≤ cap) (h2 : cap ≤ 1073741824) (h3 : cur.length = cap) (h4 : cur.take n = xs) (h5 : xs.length = n) :
    w.ownsRow base 5 1 (.slice (some ⟨g, 0, none⟩) n cap) n xs :=
  ⟨by simpa using h5, .inr ⟨g, cap, cur.toArray, rfl, hb, hB, h1, by simp only [maxLen]; omega, by simpa using h3, by simpa using h4⟩⟩

set_option maxRecDepth 100000 in
set_option maxHeartbeats 400000 in
theorem clone22 (p : Option Addr) (n c base : Nat) (xs : List Value) (w : World) (hn : n ≤ 1048576) (hl : xs.length = n) (hp : Src w p xs) (hp0 : p = none → n = 0 ∧ c = 0) (hb : base ≤ w.heap.size)
    (h1 : ∀ v ∈ xs, v.oneCell' = true) : Calls Try.prog 22 #[.slice p n c] w (CB w base p n xs) := by
  subst hl
  have hmk := fun w => run_make_row' (P := Try.prog) 23 5 (.int .u8 0) 1 Try.underlying23 info5 rfl .i64 .i64 xs.length (by omega) (by omega) w
  cases p with
  | none =>
    obtain ⟨h0, rfl⟩ := hp0 rfl
    obtain rfl : xs = [] := List.eq_nil_of_length_eq_zero h0
    have hnil : ∀ w, (binOp .eql 23 (.slice none 0 0) (.slice none 0 0)).run Try.prog w = .ok (.bool true) w := fun w => by
      rw [Lib.run_eql_slice_nil w 23 5 _ _ _ _ _ Try.underlying23]; rfl
    go_enter Try.func22, Try.ntmps22
    go_wp2
    go_ret
    exact ⟨_, rfl, World.ownsRow_nil _ _ _ _, by simp, fun g h => by simp [Value.ownBlock] at h, Kp.refl _ _⟩
  | some a =>
    have hnil : ∀ w, (binOp .eql 23 (.slice (some a) xs.length c) (.slice none 0 0)).run Try.prog w = .ok (.bool false) w := fun w => by
      rw [Lib.run_eql_slice_nil w 23 5 _ _ _ _ _ Try.underlying23]; rfl
    go_enter Try.func22, Try.ntmps22
    have hK : Kp [] w (w.alloc (.cells (madeCells #[.int .u8 0] xs.length) 5)) := (Kp.refl _ _).alloc _
    have hB : Blk (w.alloc (.cells (madeCells #[.int .u8 0] xs.length) 5)) w.heap.size (List.replicate xs.length (.int .u8 0)) 5 := by
      have := Blk.new w (madeCells #[.int .u8 0] xs.length) 5
      rwa [made_list] at this
    have hS := hp.kp hK (by simp)
    go_wp2_with (refine wpList_copy_blk rfl (.tmp 9) (.tmp 10) 23 23 rfl 5 Try.underlying23 info5s _ _ _ _ _ _ rfl rfl w.heap.size _ 5 hB xs (by simp) (fun _ => rfl) hS (by simp) h1 ?_; intro w1 hB1 hK1 hs1)
    go_ret
    refine ⟨_, rfl, own_of_blk (by simpa using hB1) hb (Nat.le_refl _) (by omega) rfl (by simp) rfl, by simp, fun g h => by simp [Value.ownBlock] at h; omega, hK.then hK1 (by simp)⟩

set_option maxRecDepth 100000 in
theorem zzB28 (a b d : Int) (p1 p2 p3 : Option Addr) (n1 n2 n3 c1 c2 c3 : Nat) (w : World) : Calls Try.prog 28 #[.int .i64 a, .slice p1 n1 c1, .int .i64 b, .int .i64 d, .slice p2 n2 c2, .slice p3 n3 c3] w (SomeBool w) := by
  by_cases h1 : n1 ≤ 1048576
  case neg => go_enter Try.func28, Try.ntmps28; go_wp2; go_ret; exact ⟨rfl, _, rfl⟩
  by_cases h2 : n2 ≤ 1048576
  case neg => go_enter Try.func28, Try.ntmps28; go_wp2; go_ret; exact ⟨rfl, _, rfl⟩
  by_cases h3 : n1 + n2 ≤ 1048576
  case neg => go_enter Try.func28, Try.ntmps28; go_wp2; go_ret; exact ⟨rfl, _, rfl⟩
  by_cases h4 : n3 ≤ 1048576
  case neg => go_enter Try.func28, Try.ntmps28; go_wp2; go_ret; exact ⟨rfl, _, rfl⟩
  by_cases h5 : n1 + n2 + n3 ≤ 1048576
  case neg => go_enter Try.func28, Try.ntmps28; go_wp2; go_ret; exact ⟨rfl, _, rfl⟩
  go_enter Try.func28, Try.ntmps28; go_wp2; go_ret; exact ⟨rfl, _, rfl⟩

set_option maxRecDepth 100000 in
theorem buf25 (rB : Nat) (x0 v x2 x3 : Value) (w : World) (h : Blk w rB [x0, v, x2, x3] 50) : Calls Try.prog 25 #[.pointer (some ⟨rB, 0, none⟩)] w (Pure w v) := by
  have c1 : w.cell? ⟨rB, 1, none⟩ = some v := h.cell rfl
  go_enter Try.func25, Try.ntmps25; go_wp2; go_ret; exact ⟨rfl, rfl⟩
set_option maxRecDepth 100000 in
theorem next26 (rB : Nat) (x0 v x2 x3 : Value) (w : World) (h : Blk w rB [x0, v, x2, x3] 50) : Calls Try.prog 26 #[.pointer (some ⟨rB, 0, none⟩)] w (Pure w x2) := by
  have c1 : w.cell? ⟨rB, 2, none⟩ = some x2 := h.cell rfl
  go_enter Try.func26, Try.ntmps26; go_wp2; go_ret; exact ⟨rfl, rfl⟩
set_option maxRecDepth 100000 in
theorem writ27 (rB : Nat) (x0 v x2 x3 : Value) (w : World) (h : Blk w rB [x0, v, x2, x3] 50) : Calls Try.prog 27 #[.pointer (some ⟨rB, 0, none⟩)] w (Pure w x3) := by
  have c1 : w.cell? ⟨rB, 3, none⟩ = some x3 := h.cell rfl
  go_enter Try.func27, Try.ntmps27; go_wp2; go_ret; exact ⟨rfl, rfl⟩

def NewOut (w : World) (x0 v x2 x3 : Value) (e : Ending) (w' : World) : Prop := e = .returned (.pointer (some ⟨w.heap.size, 0, none⟩)) ∧ w' = w.alloc (.cells #[x0, v, x2, x3] 50)
set_option maxRecDepth 100000 in
theorem new23 (a b d : Int) (p : Option Addr) (n c : Nat) (w : World) : Calls Try.prog 23 #[.int .i64 a, .slice p n c, .int .i64 b, .int .i64 d] w (NewOut w (.int .i64 a) (.slice p n c) (.int .i64 b) (.int .i64 d)) := by
  go_enter Try.func23, Try.ntmps23; go_wp2; go_ret; exact ⟨rfl, rfl⟩
end Go.Proofs.Qxb6601367a
