/-
  SkipObject: the small readers (30, 38, 35, 37, 36, 14).
-/
import Derived.Test.Qxb6601492aRows
import Derived.Test.Qxb6601492aSkA
import Derived.Deep.RegionLaw
set_option linter.unusedSimpArgs false
set_option linter.unusedVariables false
namespace Go.Proofs.Qxb6601492a
open Go.RowKit

def Hid (p : Prop) : Prop := p
theorem hide {p : Prop} (h : p) : Hid p := h
theorem unhide {p : Prop} (h : Hid p) : p := h
def Pure (w : World) (v : Value) (e : Ending) (w' : World) : Prop := w' = w ∧ e = .returned v
theorem Pure.q {P : Program} {f : Nat} {args : Array Value} {w : World} {v : Value} (h : Calls P f args w (Pure w v)) : Calls P f args w (fun e w' => w' = w ∧ e = .returned v) := h

/-- The text in memory. -/
def Txt (w : World) (b o : Nat) (t : List Int) : Prop := b < w.heap.size ∧ ∀ i x, t[i]? = some x → w.cell? ⟨b, o + i, none⟩ = some (.int .u8 x)
theorem Txt.keep {w w' : World} {b o : Nat} {t : List Int} (h : Txt w b o t) (k : Kp [] w w') : Txt w' b o t := ⟨Nat.lt_of_lt_of_le h.1 k.size, fun i x hx => (k.cell (p := ⟨b, o + i, none⟩) h.1 (by simp)).trans (h.2 i x hx)⟩
theorem Txt.kp {S : List Nat} {w w' : World} {b o : Nat} {t : List Int} (h : Txt w b o t) (k : Kp S w w') (hb : b ∉ S) : Txt w' b o t := ⟨Nat.lt_of_lt_of_le h.1 k.size, fun i x hx => (k.cell (p := ⟨b, o + i, none⟩) h.1 hb).trans (h.2 i x hx)⟩

set_option maxRecDepth 100000 in
theorem isW30 (c : Int) (w : World) : Calls Try.prog 30 #[.int .u8 c] w (Pure w (.bool (isW c))) := by
  unfold isW
  cases h1 : c == 32 <;> cases h2 : c == 9 <;> cases h3 : c == 13 <;> cases h4 : c == 10
  all_goals
    go_enter Try.func30, Try.ntmps30
    go_wp2
    go_ret
    exact ⟨rfl, rfl⟩
set_option maxRecDepth 100000 in
theorem isSpace38 (c : Int) (w : World) : Calls Try.prog 38 #[.int .u8 c] w (Pure w (.bool (isW c))) := by
  unfold isW
  cases h1 : c == 32 <;> cases h2 : c == 9 <;> cases h3 : c == 13 <;> cases h4 : c == 10
  all_goals
    go_enter Try.func38, Try.ntmps38
    go_wp2
    go_ret
    exact ⟨rfl, rfl⟩
set_option maxRecDepth 100000 in
theorem ends35 (c : Int) (w : World) : Calls Try.prog 35 #[.int .u8 c] w (Pure w (.bool (ender c))) := by
  have C := hide (isSpace38 c w)
  unfold ender
  cases h0 : isW c <;> rw [h0] at C <;> cases h1 : c == 44 <;> cases h2 : c == 125 <;> cases h3 : c == 93
  all_goals
    clear h0
    go_enter Try.func35, Try.ntmps35
    go_wp2_with (go_at_call 38; refine (unhide C).mono ?_; rintro e w' ⟨hw, rfl⟩; have hw := hw.symm; subst hw)
    go_ret
    exact ⟨rfl, rfl⟩
def dg (c : Int) : Bool := decide (48 ≤ c) && decide (c ≤ 57)
set_option maxRecDepth 100000 in
theorem dig37 (c : Int) (w : World) : Calls Try.prog 37 #[.int .u8 c] w (Pure w (.bool (dg c))) := by
  unfold dg
  by_cases h1 : 48 ≤ c <;> by_cases h2 : c ≤ 57 <;> simp only [h1, h2, decide_true, decide_false, Bool.and_true, Bool.and_false, Bool.true_and, Bool.false_and]
  all_goals
    go_enter Try.func37, Try.ntmps37
    go_wp2
    go_ret
    exact ⟨rfl, rfl⟩
/-- What the test for a hex digit tells. -/
def HexO (w : World) (c : Int) (e : Ending) (w' : World) : Prop := w' = w ∧ ∃ b, e = .returned (.bool b) ∧ (b = true → c ≠ 34 ∧ c ≠ 92)
set_option maxRecDepth 100000 in
theorem hex36 (c : Int) (w : World) : Calls Try.prog 36 #[.int .u8 c] w (HexO w c) := by
  have C := hide (dig37 c w)
  by_cases hq : c = 34 ∨ c = 92
  · rcases hq with rfl | rfl
    all_goals
      go_enter Try.func36, Try.ntmps36
      go_wp2_with (go_at_call 37; refine (unhide C).mono ?_; rintro e w' ⟨hw, rfl⟩; have hw := hw.symm; subst hw)
      go_ret
      exact ⟨rfl, false, rfl, fun h => by cases h⟩
  · have HQ : Hid (c ≠ 34 ∧ c ≠ 92) := by constructor <;> omega
    clear hq
    cases h0 : dg c <;> rw [h0] at C <;> clear h0 <;> by_cases h1 : 97 ≤ c <;> by_cases h2 : c ≤ 102 <;> by_cases h3 : 65 ≤ c <;> by_cases h4 : c ≤ 70
    all_goals
      go_enter Try.func36, Try.ntmps36
      go_wp2_with (go_at_call 37; refine (unhide C).mono ?_; rintro e w' ⟨hw, rfl⟩; have hw := hw.symm; subst hw)
    all_goals
      go_ret
      exact ⟨rfl, _, rfl, fun _ => unhide HQ⟩

set_option maxRecDepth 100000 in
theorem ws14 (b o n c i : Nat) (t : List Int) (w : World) (hT : Txt w b o t) (hn : t.length = n) (hl : n ≤ 65536) (hi : i ≤ n) :
    Calls Try.prog 14 #[.slice (some ⟨b, o, none⟩) n c, .int .i64 i] w (Pure w (.int .i64 (ws t i))) := by
  have H := hide hT.2
  have HN := hide hn
  clear hT hn
  go_enter Try.func14, Try.ntmps14
  go_wp2
  go_loop [1] (fun x => ∃ k : Nat, k ≤ n ∧ x = .int .i64 k ∧ ws t k = ws t i) (fun x => n - (intOf x).toNat)
  case atStart => exact ⟨i, hi, rfl, rfl⟩
  case round =>
    obtain ⟨k, hk, rfl, he⟩ := hrel
    have HE := hide he
    clear he
    have i0 : (0 : Int) ≤ (k : Int) := by omega
    by_cases hlt : k < n
    · obtain ⟨y, hy⟩ := getElem?_lt_some t k (by have := unhide HN; omega)
      have c1 := (unhide H) k y hy
      have i1 : (k : Int) < (n : Int) := by omega
      have C := hide (isW30 y w)
      cases hw : isW y
      · have F := hide (ws_stop (t := t) (i := k) (fun c h => by rw [hy] at h; cases h; exact hw))
        rw [hw] at C
        clear hw hy
        go_wp2_with (go_at_call 30; refine (unhide C).mono ?_; rintro e w' ⟨hw, rfl⟩; have hw := hw.symm; subst hw)
        go_ret
        exact ⟨rfl, by rw [← unhide HE, unhide F]; rfl⟩
      · have F := hide (ws_step hy hw)
        rw [hw] at C
        clear hw hy
        go_wp2_with (go_at_call 30; refine (unhide C).mono ?_; rintro e w' ⟨hw, rfl⟩; have hw := hw.symm; subst hw)
        go_round
        case rel => exact ⟨k + 1, by omega, by go_num, by rw [← unhide F]; exact unhide HE⟩
        case measure => simp [intOf]; omega
    · have F := hide (ws_stop (t := t) (i := k) (fun c h => by have := (List.getElem?_eq_some_iff.1 h).1; have := unhide HN; omega))
      have i1 : ¬ (k : Int) < (n : Int) := by omega
      go_wp2
      go_ret
      exact ⟨rfl, by rw [← unhide HE, unhide F]; rfl⟩
end Go.Proofs.Qxb6601492a
