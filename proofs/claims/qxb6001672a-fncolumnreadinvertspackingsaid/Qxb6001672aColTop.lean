/-
  FnColumnReadInvertsPacking (7): THE WALK.
-/
import Derived.Test.Qxb6001672aColA
set_option linter.unusedSimpArgs false
set_option linter.unusedVariables false
namespace Go.Proofs.Qxb6001672a
open Go.RowKit

set_option maxRecDepth 1000000 in
set_option maxHeartbeats 4000000 in
theorem col7 (p0 p1 p2 p3 : Option Addr) (n0 n1 n2 n3 c0 c1 c2 c3 : Nat) (tx : List Bool) (cs : List Int) (ss : List ByteArray) (nu : List Bool) (nR c other : Int) (w : World)
    (h0 : Src w p0 (tx.map Value.bool)) (h1 : Src w p1 (cs.map (Value.int .i64))) (h2 : Src w p2 (ss.map Value.string)) (h3 : Src w p3 (nu.map Value.bool))
    (l0 : tx.length = n0) (l1 : cs.length = n1) (l2 : ss.length = n2) (l3 : nu.length = n3)
    (z0 : p0 = none → n0 = 0 ∧ c0 = 0) (z1 : p1 = none → n1 = 0 ∧ c1 = 0) (z2 : p2 = none → n2 = 0 ∧ c2 = 0) (z3 : p3 = none → n3 = 0 ∧ c3 = 0)
    (hcs : ∀ z ∈ cs, -9223372036854775808 ≤ z ∧ z ≤ 9223372036854775807) :
    Calls Try.prog 7 #[.slice p0 n0 c0, .slice p1 n1 c1, .slice p2 n2 c2, .slice p3 n3 c3, .int .i64 nR, .int .i64 c, .int .i64 other] w (RetTrue w) := by
  have H0 := hide h0
  have H1 := hide h1
  have H2 := hide h2
  have H3 := hide h3
  have L0 := hide l0
  have L1 := hide l1
  have L2 := hide l2
  have L3 := hide l3
  have Z0 := hide z0
  have Z1 := hide z1
  have Z2 := hide z2
  have Z3 := hide z3
  have X := hide hcs
  have HZ := hide (zzB25 p0 p1 p2 p3 n0 n1 n2 n3 c0 c1 c2 c3 ss nR c other w l2 h2)
  clear h0 h1 h2 h3 l0 l1 l2 l3 z0 z1 z2 z3 hcs
  go_enter Try.func7, Try.ntmps7
  go_wp2_with fail
  refine (unhide HZ).mono ?_
  clear HZ
  rintro e w' ⟨rfl, b, rfl, hsz⟩
  simp only []
  cases b
  · go_wp2
    go_ret
    exact ⟨rfl, Below.refl _ _⟩
  have HS := hide (hsz rfl)
  clear hsz
  by_cases hb : n0 ≤ 65536 ∧ n1 ≤ 131072 ∧ n2 ≤ 65536 ∧ n3 ≤ 131072
  case neg =>
    go_wp2
    all_goals first
      | (go_ret; exact ⟨rfl, Below.refl _ _⟩)
      | (exfalso; omega)
  obtain ⟨s0, s1, s2, s3⟩ := hb
  by_cases ht : n0 + 8 * n1 + 16 * n2 + n3 ≤ 1048576
  case neg =>
    go_wp2
    go_ret
    exact ⟨rfl, Below.refl _ _⟩
  go_wp2
  go_loop [15, 16] (fun z i => ∃ (k : Nat) (s : Int), k ≤ n2 ∧ i = .int .i64 k ∧ z = .int .i64 s ∧ 0 ≤ s ∧ s ≤ 1048576) (fun _ i => n2 - (intOf i).toNat)
  case atStart => exact ⟨0, _, Nat.zero_le _, rfl, rfl, by omega, by omega⟩
  case round =>
    obtain ⟨k, s, hk, rfl, rfl, hs0, hs1⟩ := hrel
    by_cases hlt : k < n2
    · obtain ⟨b, o, rfl, hb, hc⟩ := (unhide H2) (by simp [unhide L2]; omega)
      obtain ⟨v, hv⟩ := getElem?_lt_some ss k (by rw [unhide L2]; exact hlt)
      have hcell := hc k (.string v) (by simp [hv])
      have hvs := (unhide HS) k v hv
      clear hc hv
      by_cases hs : s + v.size ≤ 1048576
      · go_wp2
        go_round
        case rel => exact ⟨k + 1, _, by omega, by go_num, rfl, by omega, by omega⟩
        case measure => simp [intOf]; omega
      · go_wp2
        all_goals first
          | (go_ret; exact ⟨rfl, Below.refl _ _⟩)
          | (exfalso; omega)
    · by_cases a1 : 1 ≤ n0 ∧ n0 ≤ 130
      case neg =>
        go_wp2
        all_goals first
          | (go_ret; exact ⟨rfl, Below.refl _ _⟩)
          | (exfalso; omega)
      by_cases a2 : 0 ≤ nR ∧ nR ≤ 64
      case neg =>
        go_wp2
        all_goals first
          | (go_ret; exact ⟨rfl, Below.refl _ _⟩)
          | (exfalso; omega)
      by_cases a3 : 0 ≤ c ∧ c < n0
      case neg =>
        go_wp2
        all_goals first
          | (go_ret; exact ⟨rfl, Below.refl _ _⟩)
          | (exfalso; omega)
      obtain ⟨a10, a11⟩ := a1
      obtain ⟨a20, a21⟩ := a2
      obtain ⟨a30, a31⟩ := a3
      by_cases a4 : other = c
      case pos =>
        have a4' : (other == c) = true := by simp [a4]
        clear a4
        go_wp2
        all_goals first
          | (go_ret; exact ⟨rfl, Below.refl _ _⟩)
          | (exfalso; omega)
      have a4' : (other == c) = false := by simp [a4]
      obtain ⟨m, rfl⟩ := Int.eq_ofNat_of_zero_le a20
      obtain ⟨cN, rfl⟩ := Int.eq_ofNat_of_zero_le a30
      have A4 := hide a4
      clear a4
      have hmul : m * n0 ≤ 8320 := Nat.mul_le_mul (show m ≤ 64 by omega) (show n0 ≤ 130 by omega)
      have i1 : (m : Int) * (n0 : Int) ≤ 8320 := mul_le_int m n0 8320 hmul
      have i0 := mul_nonneg_int m n0
      by_cases a5 : n1 = m * n0 ∧ n2 = m * n0 ∧ n3 = m * n0
      case neg =>
        have a5' : ¬ ((n1 : Int) = (m : Int) * (n0 : Int) ∧ (n2 : Int) = (m : Int) * (n0 : Int) ∧ (n3 : Int) = (m : Int) * (n0 : Int)) := by
          intro h
          refine a5 ⟨?_, ?_, ?_⟩
          · exact Int.ofNat_inj.1 (by rw [Int.natCast_mul]; exact h.1)
          · exact Int.ofNat_inj.1 (by rw [Int.natCast_mul]; exact h.2.1)
          · exact Int.ofNat_inj.1 (by rw [Int.natCast_mul]; exact h.2.2)
        clear a5
        go_wp2
        all_goals first
          | (go_ret; exact ⟨rfl, Below.refl _ _⟩)
          | (exfalso; omega)
      obtain ⟨rfl, e2, e3⟩ := a5
      subst e2 e3
      have g1 : ((((m * n0 : Nat) : Int)) != (m : Int) * (n0 : Int)) = false := by rw [Int.natCast_mul]; simp
      have B1 := unhide HS
      have C1 := hide a31
      go_upto_region 26 with fail
      refine colA m n0 cN _ c0 c1 c2 c3 p0 p1 p2 p3 other tx cs ss nu w' _ _ _ _ _ _ _ _ _ _ _ _ _ _ _ _ _ _ _ _ _ _ _ _ _ _ _ _ _ _ _ _ _ _ _ _ _ _ _ _ _ _ _ _ _ _ _ _ _ _ _ _ _ _ _ _ _ _ _ _ _ _ _ _ _ _ _ _ _ _ _ _ _ _ _ _ _ _ _ _ _ _ _ _ _ _ _ _ _ _ _ _ _ _ _ _ _ _ _ _ _ _ _ _ _ _ _ _ _ _ _ _ _ _ _ _ _ _ _ _ _ _ _ _ _ _ _ _ _ _ _ _ _ _ _ _ _ _ _ _ _ _ _ _ _ _ _ _ _ _ _ _ _ _ _ _ _ _ _ _ _ _ _ _ _ _ _ _ _ _ _ _ _ _ _ _ _ _ _ _ _ _ _ _ _ _ _ _ _ _ _ _ _ _ _ _ _ _ _ _ _ _ _ _ _ _ _ _ _ _ _ _ _ _ _ _ _ _ _ _ _ _ _ _ _ _ _ _ _ _ _ _ _ _ _ _ _ _ _ _ _ _ _ _ _ _ _ _ _ _ _ _ _ _ _ _ _ _ _ _ _ _ _ _ _ _ _ _ _ _ _ _ _ _ _ _ _ _ _ _ _ _ _ _ _ _ _ _ _ _ _ _ _ _ _ _ _ _ _ _ _ _ _ _ _ _ _ _ _ _ _ _ _ _ _ _ _ _ _ _ _ _ _ _ _ _ _ _ _ _ _ _ _ _ _ _ _ _ _ _ _ _ _ _ _ _ _ _ _ _ _ _ _ _ _ _ _ _ _ _ _ _ _ _ _ _ _ _
        (unhide H0) (unhide H1) (unhide H2) (unhide H3) (unhide L0) (unhide L1) (unhide L2) (unhide L3) rfl (unhide Z0) (unhide Z1) (unhide Z2) (unhide Z3) (by omega) (by omega) (by omega) (unhide X) (unhide A4) _ ?_
      assumption

end Go.Proofs.Qxb6001672a
