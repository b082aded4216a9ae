/-
  The small functions of logicalInts.apply: intOf (68), truthOf (62), intTruth (51), join (69), truthInt (70), decisiveOf (42), kleene (43), rowTruth (44); and the plain law.
-/
import Derived.Test.Qxb6001672aRows
import Derived.Test.Qxb6001672aMem2
set_option linter.unusedSimpArgs false
set_option linter.unusedVariables false
namespace Go.Proofs.Qxb6001672a
open Go.RowKit

def b2i (b : Bool) : Int := if b then 1 else 0
/-- SQL's truth of an integer of a state. -/
def tru (n s : Int) : Int := if s = 0 then (if n = 0 then 0 else 2) else 1
def jn (d a b : Int) : Int := if d = 2 then max a b else min a b
def tst (t : Int) (ix : Bool) : Int := if ix then 2 else if t = 1 then 1 else 0
def kl (a b : Int) (o : Bool) : Int :=
  if o then (if a = 2 ∨ b = 2 then 2 else if a = 1 ∨ b = 1 then 1 else 0) else (if a = 0 ∨ b = 0 then 0 else if a = 1 ∨ b = 1 then 1 else 2)

def Pure (w : World) (v : Value) (e : Ending) (w' : World) : Prop := w' = w ∧ e = .returned v

set_option maxRecDepth 100000 in
theorem intOf68 (b : Bool) (w : World) : Calls Try.prog 68 #[.bool b] w (Pure w (.int .i64 (b2i b))) := by
  cases b <;> (go_enter Try.func68, Try.ntmps68; go_wp2; go_ret; exact ⟨rfl, rfl⟩)

set_option maxRecDepth 100000 in
theorem intTruth51 (n s : Int) (w : World) : Calls Try.prog 51 #[.int .i64 n, .int .u8 s] w (Pure w (.int .i8 (tru n s))) := by
  by_cases hs : s = 0
  · subst hs
    by_cases hn : n = 0
    · subst hn
      go_enter Try.func51, Try.ntmps51; go_wp2; go_ret; exact ⟨rfl, rfl⟩
    · have h : (n != 0) = true := by simp [hn]
      have e : tru n 0 = 2 := by simp [tru, hn]
      rw [e]
      go_enter Try.func51, Try.ntmps51; go_wp2; go_ret; exact ⟨rfl, rfl⟩
  · have h : (s != 0) = true := by simp [hs]
    have e : tru n s = 1 := by simp [tru, hs]
    rw [e]
    go_enter Try.func51, Try.ntmps51; go_wp2; go_ret; exact ⟨rfl, rfl⟩

set_option maxRecDepth 100000 in
theorem join69 (a b d : Int) (w : World) : Calls Try.prog 69 #[.int .i8 a, .int .i8 b, .int .i8 d] w (Pure w (.int .i8 (jn d a b))) := by
  have fin : ∀ x, x = jn d a b → Pure w (.int .i8 (jn d a b)) (.returned (.int .i8 x)) w := fun x h => ⟨rfl, by rw [h]⟩
  have F := fin
  by_cases hd : d = 2
  · have e : jn d a b = max a b := by simp [jn, hd]
    have h : (d == 2) = true := by simp [hd]
    rw [e] at F ⊢
    clear fin hd e
    go_enter Try.func69, Try.ntmps69
    go_wp2
    all_goals (go_ret; exact F _ (by omega))
  · have e : jn d a b = min a b := by simp [jn, hd]
    have h : (d == 2) = false := by simp [hd]
    rw [e] at F ⊢
    clear fin hd e
    go_enter Try.func69, Try.ntmps69
    go_wp2
    all_goals (go_ret; exact F _ (by omega))

set_option maxRecDepth 100000 in
theorem truthInt70 (t : Int) (ix : Bool) (w : World) : Calls Try.prog 70 #[.int .i8 t, .bool ix] w (Pure w (.tuple #[.int .i64 (b2i (t == 2)), .int .u8 (tst t ix)])) := by
  cases ix
  · by_cases h1 : t = 1
    · subst h1
      go_enter Try.func70, Try.ntmps70; go_wp2_with (go_at_call 68; refine (intOf68 _ _).mono ?_; rintro e w' ⟨rfl, rfl⟩); go_ret2; exact ⟨rfl, rfl⟩
    · have h : (t == 1) = false := by simp [h1]
      have e : tst t false = 0 := by simp [tst, h1]
      rw [e]
      go_enter Try.func70, Try.ntmps70; go_wp2_with (go_at_call 68; refine (intOf68 _ _).mono ?_; rintro e w' ⟨rfl, rfl⟩); go_ret2; exact ⟨rfl, rfl⟩
  · go_enter Try.func70, Try.ntmps70; go_wp2_with (go_at_call 68; refine (intOf68 _ _).mono ?_; rintro e w' ⟨rfl, rfl⟩); go_ret2; exact ⟨rfl, rfl⟩

set_option maxRecDepth 100000 in
theorem decisive42 (b : Bool) (w : World) : Calls Try.prog 42 #[.bool b] w (Pure w (.int .i8 (if b then 2 else 0))) := by
  cases b <;> (go_enter Try.func42, Try.ntmps42; go_wp2; go_ret; exact ⟨rfl, rfl⟩)

set_option maxRecDepth 100000 in
theorem rowTruth44 (n s : Int) (w : World) : Calls Try.prog 44 #[.int .i64 n, .int .u8 s] w (Pure w (.int .i8 (tru n s))) := by
  by_cases hs : s = 0
  · subst hs
    by_cases hn : n = 0
    · subst hn
      go_enter Try.func44, Try.ntmps44; go_wp2; go_ret; exact ⟨rfl, rfl⟩
    · have h : (n != 0) = true := by simp [hn]
      have e : tru n 0 = 2 := by simp [tru, hn]
      rw [e]
      go_enter Try.func44, Try.ntmps44; go_wp2; go_ret; exact ⟨rfl, rfl⟩
  · have h : (s != 0) = true := by simp [hs]
    have e : tru n s = 1 := by simp [tru, hs]
    rw [e]
    go_enter Try.func44, Try.ntmps44; go_wp2; go_ret; exact ⟨rfl, rfl⟩

theorem tru_cases (n s : Int) : tru n s = 0 ∨ tru n s = 1 ∨ tru n s = 2 := by
  unfold tru; split <;> (try split) <;> simp

set_option maxRecDepth 100000 in
theorem kleene43 (a b : Int) (o : Bool) (w : World) (ha : a = 0 ∨ a = 1 ∨ a = 2) (hb : b = 0 ∨ b = 1 ∨ b = 2) : Calls Try.prog 43 #[.int .i8 a, .int .i8 b, .bool o] w (Pure w (.int .i8 (kl a b o))) := by
  rcases ha with rfl | rfl | rfl <;> rcases hb with rfl | rfl | rfl <;> cases o <;> (go_enter Try.func43, Try.ntmps43; go_wp2; go_ret; exact ⟨rfl, rfl⟩)

end Go.Proofs.Qxb6001672a
