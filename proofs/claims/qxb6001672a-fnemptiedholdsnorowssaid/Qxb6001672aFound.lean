/-
  zzBytes (25), foundOf (55).
-/
import Derived.Test.Qxb6001672aClone
namespace Go.Proofs.Qxb6001672a
open Go.RowKit
/-- It answers some bool, and the world stands. -/
def SomeBool (w : World) (e : Ending) (w' : World) : Prop := w' = w ∧ ∃ b, e = .returned (.bool b)
/-- .. and where it says yes no string is longer than 1<<20. -/
def SomeBoolS (w : World) (ss : List ByteArray) (e : Ending) (w' : World) : Prop := w' = w ∧ ∃ b, e = .returned (.bool b) ∧ (b = true → ∀ (i : Nat) (s : ByteArray), ss[i]? = some s → s.size ≤ 1048576)

set_option maxRecDepth 100000 in
set_option maxHeartbeats 400000 in
theorem zzB25 (p0 p1 p2 p3 : Option Addr) (n0 n1 n2 n3 c0 c1 c2 c3 : Nat) (ss : List ByteArray) (nr c o : Int) (w : World) (hl : ss.length = n2) (hS : Src w p2 (ss.map Value.string)) :
    Calls Try.prog 25 #[.slice p0 n0 c0, .slice p1 n1 c1, .slice p2 n2 c2, .slice p3 n3 c3, .int .i64 nr, .int .i64 c, .int .i64 o] w (SomeBoolS w ss) := by
  subst hl
  go_enter Try.func25, Try.ntmps25
  go_wp2
  all_goals first | (go_ret; exact ⟨rfl, false, rfl, fun h => by cases h⟩) | skip
  go_loop [15, 16] (fun z i => ∃ (k : Nat) (s : Int), k ≤ ss.length ∧ i = .int .i64 k ∧ z = .int .i64 s ∧ 0 ≤ s ∧ s ≤ 1048576 ∧ ∀ (i : Nat) (s : ByteArray), i < k → ss[i]? = some s → s.size ≤ 1048576) (fun _ i => ss.length - (intOf i).toNat)
  case atStart => exact ⟨0, _, Nat.zero_le _, rfl, rfl, by omega, by omega, fun i s hi => by omega⟩
  case round =>
    obtain ⟨k, s, hk, rfl, rfl, h0, h1, hall⟩ := hrel
    have HA : Hid (∀ (i : Nat) (s : ByteArray), i < k → ss[i]? = some s → s.size ≤ 1048576) := hall
    clear hall
    by_cases hlt : k < ss.length
    · obtain ⟨b, o, rfl, hb, hc⟩ := hS (by simp; omega)
      obtain ⟨v, hv⟩ := getElem?_lt_some ss k hlt
      have hcell := hc k (.string v) (by simp [hv])
      have HV : Hid (ss[k]? = some v) := hv
      clear hc hv
      go_wp2
      all_goals first | (go_ret; exact ⟨rfl, false, rfl, fun h => by cases h⟩) | skip
      go_round
      case rel =>
        refine ⟨k + 1, _, by omega, by go_num, rfl, by omega, by omega, fun i s hi hs => ?_⟩
        by_cases hik : i = k
        · subst hik
          rw [HV.out] at hs
          cases hs
          omega
        · exact HA.out i s (by omega) hs
      case measure => simp [intOf]; omega
    · go_wp2
      all_goals first | (go_ret; exact ⟨rfl, false, rfl, fun h => by cases h⟩) | (go_ret; exact ⟨rfl, true, rfl, fun _ i s hs => HA.out i s (by have := (List.getElem?_eq_some_iff.1 hs).1; omega) hs⟩)

/-- The found column that foundOf finds: its place. -/
def foundAt (fB : Nat) (c : Int) : Nat → List Int → Option Addr
  | _, [] => none
  | i, x :: r => if x == c then some ⟨fB, i * 5, none⟩ else foundAt fB c (i + 1) r
theorem foundAt_hit (fB : Nat) (c : Int) (cols : List Int) (i k : Nat) (hk : cols[k]? = some c) (hno : ∀ j, j < k → cols[j]? ≠ some c) : foundAt fB c i cols = some ⟨fB, (i + k) * 5, none⟩ := by
  induction cols generalizing i k with
  | nil => simp at hk
  | cons x r ih =>
    cases k with
    | zero => simp at hk; simp [foundAt, hk]
    | succ k =>
      have hx : x ≠ c := by have := hno 0 (by omega); simpa using this
      simp only [foundAt, beq_iff_eq, hx, if_false]
      rw [ih (i + 1) k (by simpa using hk) (fun j hj => by have := hno (j + 1) (by omega); simpa using this)]
      congr 3; omega
theorem foundAt_miss (fB : Nat) (c : Int) (cols : List Int) (i : Nat) (hno : ∀ j, j < cols.length → cols[j]? ≠ some c) : foundAt fB c i cols = none := by
  induction cols generalizing i with
  | nil => rfl
  | cons x r ih =>
    have hx : x ≠ c := by have := hno 0 (by simp); simpa using this
    simp only [foundAt, beq_iff_eq, hx, if_false]
    exact ih (i + 1) (fun j hj => by have := hno (j + 1) (by simpa using hj); simpa using this)
def Found (w : World) (fB : Nat) (c : Int) (cols : List Int) (e : Ending) (w' : World) : Prop := w' = w ∧ e = .returned (.pointer (foundAt fB c 0 cols))
set_option maxRecDepth 100000 in
set_option maxHeartbeats 400000 in
theorem foundOf55 (rB fB fcap : Nat) (fp : Option Addr) (c : Int) (cols : List Int) (w : World) (hn : cols.length ≤ 1048576)
    (hR : w.cell? ⟨rB, 4, none⟩ = some (.slice fp cols.length fcap)) (hF : ∀ i x, cols[i]? = some x → fp = some ⟨fB, 0, none⟩ ∧ w.cell? ⟨fB, i * 5, none⟩ = some (.int .i64 x)) :
    Calls Try.prog 55 #[.pointer (some ⟨rB, 0, none⟩), .int .i64 c] w (Found w fB c cols) := by
  go_enter Try.func55, Try.ntmps55
  go_wp2
  go_loop [11] (fun i => ∃ k : Nat, k ≤ cols.length ∧ i = .int .i64 k ∧ ∀ j, j < k → cols[j]? ≠ some c) (fun i => cols.length - (intOf i).toNat)
  case atStart => exact ⟨0, Nat.zero_le _, rfl, fun j hj => by omega⟩
  case round =>
    obtain ⟨k, hk, rfl, hno⟩ := hrel
    by_cases hlt : k < cols.length
    · obtain ⟨x, hx⟩ := getElem?_lt_some cols k hlt
      obtain ⟨rfl, hcell⟩ := hF k x hx
      have HX : Hid (cols[k]? = some x) := hx
      have HN : Hid (∀ j, j < k → cols[j]? ≠ some c) := hno
      clear hF hx hno
      cases hxc : x == c
      · go_wp2
        go_round
        case rel =>
          refine ⟨k + 1, by omega, by go_num, fun j hj => ?_⟩
          by_cases hjk : j = k
          · subst hjk; rw [HX.out]; intro h; simp at h; simp [h] at hxc
          · exact HN.out j (by omega)
        case measure => simp [intOf]; omega
      · go_wp2
        go_ret
        have : x = c := by simpa using hxc
        subst this
        exact ⟨rfl, by rw [foundAt_hit fB x cols 0 k HX.out HN.out]; simp⟩
    · go_wp2
      go_ret
      exact ⟨rfl, by rw [foundAt_miss fB c cols 0 (fun j hj => hno j (by omega))]; rfl⟩

end Go.Proofs.Qxb6001672a
