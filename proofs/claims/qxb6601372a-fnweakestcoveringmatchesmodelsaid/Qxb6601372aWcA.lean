/-
  Weakest covering: a matrix of bools in memory; the bounds' functions (13, 20, 14, 15).
-/
import Derived.Test.Qxb6601372aMem2
import Derived.Test.Qxb6601372aChecked
import Derived.Deep.RegionLaw
set_option linter.unusedSimpArgs false
set_option linter.unusedVariables false
namespace Go.Proofs.Qxb6601372a
open Go.RowKit

def Hid (p : Prop) : Prop := p
theorem hide {p : Prop} (h : p) : Hid p := h
theorem unhide {p : Prop} (h : Hid p) : p := h

def rowV (A : Nat → Option Addr) (L C : Nat → Nat) (r : Nat) : Value := .slice (A r) (L r) (C r)
def bitV (B : Nat → Nat → Bool) (r c : Nat) : Value := .bool (B r c)
/-- A matrix of bools: len rows, row r at A r, of L r. -/
def Grid (w : World) (p : Option Addr) (len : Nat) (A : Nat → Option Addr) (L C : Nat → Nat) (B : Nat → Nat → Bool) : Prop :=
  Src w p ((List.range len).map (rowV A L C)) ∧ ∀ r, r < len → Src w (A r) ((List.range (L r)).map (bitV B r))

theorem Grid.row {w : World} {p : Option Addr} {len : Nat} {A : Nat → Option Addr} {L C : Nat → Nat} {B : Nat → Nat → Bool} (h : Grid w p len A L C B) (h0 : 0 < len) :
    ∃ b o, p = some ⟨b, o, none⟩ ∧ ∀ r, r < len → w.cell? ⟨b, o + r, none⟩ = some (.slice (A r) (L r) (C r)) := by
  obtain ⟨b, o, hp, _, hc⟩ := h.1 (by simpa using h0)
  exact ⟨b, o, hp, fun r hr => hc r _ (by simp [hr, rowV])⟩

theorem Grid.bit {w : World} {p : Option Addr} {len : Nat} {A : Nat → Option Addr} {L C : Nat → Nat} {B : Nat → Nat → Bool} (h : Grid w p len A L C B) {r : Nat} (hr : r < len) (h0 : 0 < L r) :
    ∃ b o, A r = some ⟨b, o, none⟩ ∧ ∀ c, c < L r → w.cell? ⟨b, o + c, none⟩ = some (.bool (B r c)) := by
  obtain ⟨b, o, hp, _, hc⟩ := h.2 r hr (by simpa using h0)
  exact ⟨b, o, hp, fun c hcl => hc c _ (by simp [hcl, bitV])⟩

theorem Grid.keep {w w' : World} {p : Option Addr} {len : Nat} {A : Nat → Option Addr} {L C : Nat → Nat} {B : Nat → Nat → Bool} (h : Grid w p len A L C B) (k : Kp [] w w') : Grid w' p len A L C B :=
  ⟨h.1.keep k, fun r hr => (h.2 r hr).keep k⟩

def SB (w : World) (e : Ending) (w' : World) : Prop := Kp [] w w' ∧ ∃ b, e = .returned (.bool b)

set_option maxRecDepth 100000 in
theorem zz20 (p : Option Addr) (n c : Nat) (A : Nat → Option Addr) (L C : Nat → Nat) (B : Nat → Nat → Bool) (x y : Int) (w : World) (h : Grid w p n A L C B) (hL : ∀ r, r < n → L r ≤ maxLen) :
    Calls Try.prog 20 #[.slice p n c, .int .i8 x, .int .i8 y] w (SB w) := by
  have H := hide h
  have HL := hide hL
  clear h hL
  by_cases h1 : n ≤ 1048576
  case neg => go_enter Try.func20, Try.ntmps20; go_wp2; go_ret; exact ⟨Kp.refl _ _, _, rfl⟩
  go_enter Try.func20, Try.ntmps20
  go_wp2
  go_loopw [7, 8] (fun t i wr => ∃ k z : Nat, k ≤ n ∧ z ≤ 1048576 ∧ t = .int .i64 z ∧ i = .int .i64 k ∧ Kp [] w wr) (fun _ i _ => n - (intOf i).toNat)
  case atStart => exact ⟨0, n, Nat.zero_le _, h1, by go_num, rfl, Kp.refl _ _⟩
  case round =>
    obtain ⟨k, z, hk, hz, rfl, rfl, hKr⟩ := hrel
    by_cases hlt : k < n
    · obtain ⟨b, o, e, hc⟩ := ((unhide H).keep hKr).row (by omega)
      subst e
      have c1 := hc k hlt
      have hLk := (unhide HL) k hlt
      simp only [maxLen] at hLk
      have HK := hide hKr
      have i1 : (k : Int) < (n : Int) := by omega
      clear hc hKr
      by_cases h2 : L k ≤ 1048576
      case neg => go_wp2; go_ret; exact ⟨unhide HK, _, rfl⟩
      by_cases h3 : z + L k ≤ 1048576
      case neg => go_wp2; go_ret; exact ⟨unhide HK, _, rfl⟩
      go_wp2
      go_roundw
      case rel => exact ⟨k + 1, z + L k, by omega, h3, by go_num, by go_num, unhide HK⟩
      case measure => simp [intOf]; omega
    · go_wp2
      go_ret
      exact ⟨hKr, _, rfl⟩

set_option maxRecDepth 100000 in
theorem zz13 (p : Option Addr) (n c : Nat) (A : Nat → Option Addr) (L C : Nat → Nat) (B : Nat → Nat → Bool) (x y : Int) (w : World) (h : Grid w p n A L C B) (hL : ∀ r, r < n → L r ≤ maxLen) :
    Calls Try.prog 13 #[.slice p n c, .int .i8 x, .int .i8 y] w (SB w) := by
  have H := hide h
  have HL := hide hL
  clear h hL
  by_cases h1 : n ≤ 1048576
  case neg => go_enter Try.func13, Try.ntmps13; go_wp2; go_ret; exact ⟨Kp.refl _ _, _, rfl⟩
  go_enter Try.func13, Try.ntmps13
  go_wp2
  go_loopw [7, 8] (fun t i wr => ∃ k z : Nat, k ≤ n ∧ z ≤ 1048576 ∧ t = .int .i64 z ∧ i = .int .i64 k ∧ Kp [] w wr) (fun _ i _ => n - (intOf i).toNat)
  case atStart => exact ⟨0, n, Nat.zero_le _, h1, by go_num, rfl, Kp.refl _ _⟩
  case round =>
    obtain ⟨k, z, hk, hz, rfl, rfl, hKr⟩ := hrel
    by_cases hlt : k < n
    · obtain ⟨b, o, e, hc⟩ := ((unhide H).keep hKr).row (by omega)
      subst e
      have c1 := hc k hlt
      have hLk := (unhide HL) k hlt
      simp only [maxLen] at hLk
      have HK := hide hKr
      have i1 : (k : Int) < (n : Int) := by omega
      clear hc hKr
      by_cases h2 : L k ≤ 1048576
      case neg => go_wp2; go_ret; exact ⟨unhide HK, _, rfl⟩
      by_cases h3 : z + L k ≤ 1048576
      case neg => go_wp2; go_ret; exact ⟨unhide HK, _, rfl⟩
      go_wp2
      go_roundw
      case rel => exact ⟨k + 1, z + L k, by omega, h3, by go_num, by go_num, unhide HK⟩
      case measure => simp [intOf]; omega
    · go_wp2
      go_ret
      exact ⟨hKr, _, rfl⟩

set_option maxRecDepth 100000 in
theorem bytes14 (p : Option Addr) (n c : Nat) (A : Nat → Option Addr) (L C : Nat → Nat) (B : Nat → Nat → Bool) (w : World) (h : Grid w p n A L C B) (hL : ∀ r, r < n → L r ≤ maxLen) :
    Calls Try.prog 14 #[.slice p n c] w (SB w) := by
  have H := hide h
  have HL := hide hL
  clear h hL
  by_cases h1 : n ≤ 65536
  case neg => go_enter Try.func14, Try.ntmps14; go_wp2; go_ret; exact ⟨Kp.refl _ _, _, rfl⟩
  go_enter Try.func14, Try.ntmps14
  go_wp2
  go_loopw [3, 4] (fun t i wr => ∃ (k : Nat) (z : Int), k ≤ n ∧ t = .int .i64 z ∧ i = .int .i64 k ∧ Kp [] w wr) (fun _ i _ => n - (intOf i).toNat)
  case atStart => exact ⟨0, 24 * (n : Int), Nat.zero_le _, by go_num, rfl, Kp.refl _ _⟩
  case round =>
    obtain ⟨k, z, hk, rfl, rfl, hKr⟩ := hrel
    by_cases hlt : k < n
    · obtain ⟨b, o, e, hc⟩ := ((unhide H).keep hKr).row (by omega)
      subst e
      have c1 := hc k hlt
      have hLk := (unhide HL) k hlt
      simp only [maxLen] at hLk
      have HK := hide hKr
      have i1 : (k : Int) < (n : Int) := by omega
      clear hc hKr
      go_wp2
      all_goals first
        | (go_ret; exact ⟨unhide HK, _, rfl⟩)
        | skip
      go_roundw
      case rel => exact ⟨k + 1, _, by omega, rfl, by go_num, unhide HK⟩
      case measure => simp [intOf]; omega
    · go_wp2
      go_ret
      exact ⟨hKr, _, rfl⟩

/-- What the domain's test tells. -/
def DomOut (w : World) (n : Nat) (L : Nat → Nat) (x y : Int) (e : Ending) (w' : World) : Prop :=
  Kp [] w w' ∧ ∃ b, e = .returned (.bool b) ∧ (b = true → n ≤ 127 ∧ (∀ r, r < n → L r = n) ∧ 0 ≤ x ∧ x < n ∧ 0 ≤ y ∧ y < n)

set_option maxRecDepth 100000 in
theorem dom15 (p : Option Addr) (n c : Nat) (A : Nat → Option Addr) (L C : Nat → Nat) (B : Nat → Nat → Bool) (x y : Int) (w : World) (h : Grid w p n A L C B) (hx : -128 ≤ x ∧ x ≤ 127) (hy : -128 ≤ y ∧ y ≤ 127) :
    Calls Try.prog 15 #[.slice p n c, .int .i8 x, .int .i8 y] w (DomOut w n L x y) := by
  have H := hide h
  clear h
  by_cases h1 : n ≤ 127
  case neg => go_enter Try.func15, Try.ntmps15; go_wp2; go_ret; exact ⟨Kp.refl _ _, _, rfl, fun h => by cases h⟩
  go_enter Try.func15, Try.ntmps15
  go_wp2
  go_loopw [8] (fun i wr => ∃ k : Nat, k ≤ n ∧ i = .int .i64 k ∧ Kp [] w wr ∧ ∀ r, r < k → L r = n) (fun i _ => n - (intOf i).toNat)
  case atStart => exact ⟨0, Nat.zero_le _, rfl, Kp.refl _ _, fun r h => by omega⟩
  case round =>
    obtain ⟨k, hk, rfl, hKr, hrl⟩ := hrel
    have HR := hide hrl
    clear hrl
    by_cases hlt : k < n
    · obtain ⟨b, o, e, hc⟩ := ((unhide H).keep hKr).row (by omega)
      subst e
      have c1 := hc k hlt
      have HK := hide hKr
      have i1 : (k : Int) < (n : Int) := by omega
      clear hc hKr
      by_cases h2 : L k = n
      case neg =>
        have h2' : (L k == n) = false := by simp [h2]
        go_wp2; go_ret; exact ⟨unhide HK, _, rfl, fun h => by cases h⟩
      have h2' := hide h2
      rw [h2] at c1
      clear h2
      go_wp2
      go_roundw
      case rel =>
        refine ⟨k + 1, by omega, by go_num, unhide HK, fun r hr => ?_⟩
        by_cases hrk : r = k
        · rw [hrk]; exact unhide h2'
        · exact (unhide HR) r (by omega)
      case measure => simp [intOf]; omega
    · have hkn : k = n := by omega
      subst hkn
      have HK := hide hKr
      clear hKr
      by_cases g : 0 ≤ x ∧ x < k ∧ 0 ≤ y ∧ y < k
      · obtain ⟨g1, g2, g3, g4⟩ := g
        go_wp2
        go_ret
        exact ⟨unhide HK, _, rfl, fun _ => ⟨h1, unhide HR, g1, g2, g3, g4⟩⟩
      · go_wp2
        all_goals first
          | (go_ret; exact ⟨unhide HK, false, rfl, fun h => by cases h⟩)
          | (go_ret; refine ⟨unhide HK, _, rfl, fun hb => ?_⟩; simp at hb; exact absurd ⟨by omega, by omega, by omega, by omega⟩ g)
end Go.Proofs.Qxb6601372a
