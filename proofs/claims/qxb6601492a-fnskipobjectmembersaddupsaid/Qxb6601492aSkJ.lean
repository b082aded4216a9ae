/-
  SkipObject: skipString (31), skip (24), their shims (15, 11).
-/
import Derived.Test.Qxb6601492aSkI
set_option linter.unusedSimpArgs false
set_option linter.unusedVariables false
namespace Go.Proofs.Qxb6601492a
open Go.RowKit

/-- A walk over the text, at i. -/
def WB (w : World) (wB b o n c : Nat) (i : Nat) : Prop := Blk w wB [.slice (some ⟨b, o, none⟩) n c, .int .i64 i] 37
/-- The walk's place. -/
def posOf (wB : Nat) (w : World) : Nat := (intOf ((w.cell? ⟨wB, 1, none⟩).getD (.int .i64 0))).toNat
theorem WB.pos {w : World} {wB b o n c i : Nat} (h : WB w wB b o n c i) : posOf wB w = i := by
  have : w.cell? ⟨wB, 1, none⟩ = some (.int .i64 i) := h.cell rfl
  simp [posOf, this, intOf]
theorem WB.set {w : World} {wB b o n c i : Nat} (h : WB w wB b o n c i) (j : Nat) : WB (w.setCell ⟨wB, 1, none⟩ (.int .i64 j)) wB b o n c j := Blk.set h 1 _
theorem WB.drewN {w : World} {wB b o n c i : Nat} (h : WB w wB b o n c i) (m : Nat) : WB (w.drewN m) wB b o n c i := h
theorem WB.put {w : World} {wB b o n c i : Nat} (h : WB w wB b o n c i) (m : Nat) (z : Int) (j : Nat) (hz : z = j) : WB ((w.drewN m).setCell ⟨wB, 1, none⟩ (.int .i64 z)) wB b o n c j := by
  subst hz
  exact (h.drewN m).set j
theorem WB.put' {w : World} {wB b o n c i : Nat} (h : WB w wB b o n c i) (z : Int) (j : Nat) (hz : z = j) : WB (w.setCell ⟨wB, 1, none⟩ (.int .i64 z)) wB b o n c j := by
  subst hz
  exact h.set j
theorem posw {v w : World} {wB b o n c i j : Nat} (hv : WB v wB b o n c j) (hw : WB w wB b o n c i) (hij : i < j) (hin : i < n) : n - posOf wB v < n - posOf wB w := by
  rw [hv.pos, hw.pos]
  omega
/-- What skip and skipString leave. -/
def AtO (u : World) (wB b o n c k : Nat) (e : Ending) (w' : World) : Prop := e = .returned (.tuple #[]) ∧ WB w' wB b o n c k ∧ Kp [wB] u w'

set_option maxRecDepth 100000 in
set_option maxHeartbeats 2000000 in
theorem skipS31 (wB b o n c p k : Nat) (t : List Int) (u : World) (hW : WB u wB b o n c p) (hT : Txt u b o t) (hbw : b ≠ wB) (hn : t.length = n) (hl : n ≤ 65536) (hS : ∃ f, ss t f (p + 1) = some k) :
    Calls Try.prog 31 #[.pointer (some ⟨wB, 0, none⟩)] u (AtO u wB b o n c k) := by
  have a0 : u.cell? ⟨wB, 0, none⟩ = some (.slice (some ⟨b, o, none⟩) n c) := hW.cell rfl
  have a1 : u.cell? ⟨wB, 1, none⟩ = some (.int .i64 p) := hW.cell rfl
  have f1 : u.frozen? ⟨wB, 1, none⟩ = false := hW.frozen 1
  have hbw' : wB ≠ b := Ne.symm hbw
  have W1 := hide (hW.set (p + 1))
  have K1 : Hid (Kp [wB] u (u.setCell ⟨wB, 1, none⟩ (.int .i64 ((p + 1 : Nat) : Int)))) := (Kp.refl _ _).setCell (.inl (by simp)) _
  have HT := hide hT
  have HN := hide hn
  have HS := hide hS
  have hp65 : p < 65536 := by
    obtain ⟨f, hf⟩ := hS
    have := ss_gt hf
    omega
  clear hW hT hn hS
  have TK : Hid (∀ wr, Kp [wB] u wr → Txt wr b o t) := fun wr h => (unhide HT).kp h (by simpa using hbw)
  go_enter Try.func31, Try.ntmps31
  go_wp2
  go_loopw [9] (fun x wr => ∃ i f : Nat, WB wr wB b o n c i ∧ Kp [wB] u wr ∧ ss t f i = some k) (fun _ wr => n - posOf wB wr)
  case atStart =>
    obtain ⟨f, hf⟩ := unhide HS
    refine ⟨p + 1, f, ?_, ?_, hf⟩
    · simpa using unhide W1
    · simpa using unhide K1
  case round =>
    obtain ⟨i, f, hW, hK, hf⟩ := hrel
    cases f with
    | zero => simp [ss] at hf
    | succ f =>
    have hgt := ss_gt hf
    obtain ⟨y, hy⟩ := getElem?_lt_some t i (by omega)
    have d0 : wr.cell? ⟨wB, 0, none⟩ = some (.slice (some ⟨b, o, none⟩) n c) := hW.cell rfl
    have d1 : wr.cell? ⟨wB, 1, none⟩ = some (.int .i64 i) := hW.cell rfl
    have g1 : wr.frozen? ⟨wB, 1, none⟩ = false := hW.frozen 1
    have d2 := ((unhide TK) wr hK).2 i y hy
    have hin : i < n := by have := unhide HN; omega
    have j1 : (i : Int) < (n : Int) := by omega
    have HW := hide hW
    have HK := hide hK
    have PO := hide hW.pos
    clear hW hK
    by_cases h34 : y = 34
    · subst h34
      rw [ss_quote hy] at hf
      cases hf
      clear hy
      go_wp2
      go_quiet (fail)
      go_wp2
      go_end0
      refine ⟨rfl, ?_, ?_⟩
      · have := ((unhide HW).drewN nq).set (i + 1)
        simpa using this
      · have := ((unhide HK).drewN nq).setCell (p := ⟨wB, 1, none⟩) (.inl (by simp)) (.int .i64 ((i + 1 : Nat) : Int))
        simpa using this
    have g34 : (y == 34) = false := by simp [h34]
    have g34' : (y != 34) = true := by simp [h34]
    by_cases h92 : y = 92
    · subst h92
      rw [ss_esc hy] at hf
      have HF := hide hf
      have hgt2 := ss_gt hf
      clear hy hf
      go_wp2
      go_quiet (fail)
      go_wp2
      go_quiet (fail)
      go_wp2
      go_roundw
      case rel => exact ⟨i + 2, f, ((unhide HW).put _ _ (i + 1) (by omega)).put' _ (i + 2) (by omega), (((unhide HK).drewN _).setCell (.inl (by simp)) _).setCell (.inl (by simp)) _, unhide HF⟩
      case measure => exact posw (j := i + 2) (((unhide HW).put _ _ (i + 1) (by omega)).put' _ (i + 2) (by omega)) (unhide HW) (by omega) hin
    · have g92 : (y == 92) = false := by simp [h92]
      rw [ss_char hy h34 h92] at hf
      have HF := hide hf
      have hgt2 := ss_gt hf
      clear hy hf
      go_wp2
      go_quiet (fail)
      go_wp2
      go_quiet (fail)
      go_wp2
      go_roundw
      case rel => exact ⟨i + 1, f, (unhide HW).put _ _ (i + 1) (by omega), ((unhide HK).drewN _).setCell (.inl (by simp)) _, unhide HF⟩
      case measure => exact posw (j := i + 1) ((unhide HW).put _ _ (i + 1) (by omega)) (unhide HW) (by omega) hin

/-- The number a shim hands back. -/
def Num (u : World) (k : Nat) (e : Ending) (w' : World) : Prop := e = .returned (.int .i64 k) ∧ Kp [] u w'
theorem new_walk (u : World) (b o n c p : Nat) (t : List Int) (hT : Txt u b o t) : WB (u.alloc (.cells #[.slice (some ⟨b, o, none⟩) n c, .int .i64 p] 37)) u.heap.size b o n c p ∧ Txt (u.alloc (.cells #[.slice (some ⟨b, o, none⟩) n c, .int .i64 p] 37)) b o t ∧ b ≠ u.heap.size ∧ Kp [] u (u.alloc (.cells #[.slice (some ⟨b, o, none⟩) n c, .int .i64 p] 37)) :=
  ⟨Blk.new u _ _, hT.keep ((Kp.refl _ _).alloc _), by have := hT.1; omega, (Kp.refl _ _).alloc _⟩

set_option maxRecDepth 100000 in
theorem zzStr15 (b o n c p k : Nat) (t : List Int) (u : World) (hT : Txt u b o t) (hn : t.length = n) (hl : n ≤ 65536) (hS : STR t p k) :
    Calls Try.prog 15 #[.slice (some ⟨b, o, none⟩) n c, .int .i64 (p : Nat)] u (Num u k) := by
  obtain ⟨w1, w2, w3, w4⟩ := new_walk u b o n c p t hT
  have C := hide (skipS31 u.heap.size b o n c p k t _ w1 w2 w3 hn hl hS.2)
  have K := hide w4
  clear w1 w2 w3 w4 hT hn hS
  go_enter Try.func15, Try.ntmps15
  go_wp2_with fail
  refine (unhide C).mono ?_
  clear C
  rintro e v ⟨rfl, hW, hK⟩
  have KK := hide ((unhide K).then hK (fun i hi => by simp at hi; right; omega))
  have d1 : v.cell? ⟨u.heap.size, 1, none⟩ = some (.int .i64 k) := hW.cell rfl
  clear hW hK
  simp only []
  go_wp2
  go_ret
  exact ⟨rfl, unhide KK⟩
end Go.Proofs.Qxb6601492a
