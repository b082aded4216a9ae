/-
  SkipObject: zzArrayEnd (27), zzObjectEnd (26), zzValueEnd (13).
-/
import Derived.Test.Qxb6601492aSkF
set_option linter.unusedSimpArgs false
set_option linter.unusedVariables false
namespace Go.Proofs.Qxb6601492a
open Go.RowKit

/-- The members of the object at p. -/
def Mem (t : List Int) (p k : Nat) : Prop := (t[ws t (p + 1)]? = some 125 ∧ k = ws t (p + 1) + 1) ∨ ∃ f, f ≤ t.length ∧ MW t f (ws t (p + 1)) k
/-- What zzValueEnd tells. -/
def VO (w : World) (t : List Int) (p : Nat) (e : Ending) (w' : World) : Prop :=
  Kp [] w w' ∧ (e = .returned (.int .i64 (-1)) ∨ ∃ k : Nat, e = .returned (.int .i64 k) ∧ V t p k ∧ (t[p]? = some 123 → Mem t p k))
/-- What zzArrayEnd and zzObjectEnd tell. -/
def AO (w : World) (t : List Int) (p : Nat) (e : Ending) (w' : World) : Prop := Kp [] w w' ∧ (e = .returned (.int .i64 (-1)) ∨ ∃ k : Nat, e = .returned (.int .i64 k) ∧ OBJ t p k)
def OO (w : World) (t : List Int) (p : Nat) (e : Ending) (w' : World) : Prop := Kp [] w w' ∧ (e = .returned (.int .i64 (-1)) ∨ ∃ k : Nat, e = .returned (.int .i64 k) ∧ OBJ t p k ∧ Mem t p k)

theorem lt_of_at {t : List Int} {i : Nat} {c : Int} (h : t[i]? = some c) : i < t.length := (List.getElem?_eq_some_iff.1 h).1

set_option maxRecDepth 100000 in
set_option maxHeartbeats 2000000 in
theorem arr27 (b o n c p : Nat) (t : List Int) (w : World) (hT : Txt w b o t) (hn : t.length = n) (hl : n ≤ 65536) (hp : t[p]? = some 91)
    (IH : Hid (∀ q u, p < q → q ≤ n → Txt u b o t → Calls Try.prog 13 #[.slice (some ⟨b, o, none⟩) n c, .int .i64 (q : Nat)] u (VO u t q))) :
    Calls Try.prog 27 #[.slice (some ⟨b, o, none⟩) n c, .int .i64 p] w (AO w t p) := by
  have hpn : p < n := by have := lt_of_at hp; omega
  have H := hide hT
  have HN := hide hn
  have HP := hide hp
  obtain ⟨i0, hi0⟩ : ∃ i, i = ws t (p + 1) := ⟨_, rfl⟩
  have g0 : p + 1 ≤ i0 := by rw [hi0]; exact ws_ge _ _
  have g1 : i0 ≤ n := by rw [hi0, ← hn]; exact ws_le _ _ (by omega)
  have P0 : Hid (Pass t (p + 1) i0) := by rw [hi0]; exact pass_ws _ _
  have C := ws14 b o n c (p + 1) t w hT hn hl (by omega)
  rw [← hi0] at C
  have C := hide C
  clear hT hn hp hi0
  go_enter Try.func27, Try.ntmps27
  go_wp2_with fail
  refine (unhide C).mono ?_
  rintro e w' ⟨hw, rfl⟩
  have hw := hw.symm
  subst hw
  simp only []
  clear C
  have FIN : Hid (∀ q, p < q → t[q]? = some 93 → Pass t (p + 1) q → OBJ t p (q + 1)) := fun q h1 h2 h3 => ⟨⟨91, unhide HP, .inr rfl⟩, q, rfl, h1, ⟨93, h2, .inr rfl⟩, h3⟩
  by_cases hlt0 : i0 < n ∧ t[i0]? = some 93
  · obtain ⟨hlt0, hc0⟩ := hlt0
    have c0 := (unhide H).2 i0 93 hc0
    have j0 : (i0 : Int) < (n : Int) := by omega
    have F := hide ((unhide FIN) i0 (by omega) hc0 (unhide P0))
    clear hc0
    go_wp2
    go_ret
    exact ⟨Kp.refl _ _, .inr ⟨i0 + 1, by go_num, unhide F⟩⟩
  have S0 : Hid (∀ (Q : Prop), (i0 < n → ∀ y, t[i0]? = some y → (y == 93) = false → Q) → (¬ i0 < n → Q) → Q) := fun Q q1 q2 => by
    by_cases h : i0 < n
    · obtain ⟨y, hy⟩ := getElem?_lt_some t i0 (by have := unhide HN; omega)
      refine q1 h y hy ?_
      cases e : y == 93 with
      | false => rfl
      | true => exact absurd ⟨h, by rw [hy]; simp at e; rw [e]⟩ hlt0
    · exact q2 h
  clear hlt0
  refine (unhide S0) _ (fun hlt0 y0 hy0 gy0 => ?_) (fun hlt0 => ?_)
  case refine_2 =>
    have j0 : ¬ (i0 : Int) < (n : Int) := by omega
    go_wp2
    go_loopw [5] (fun x wr => x = .int .i64 i0 ∧ wr = w) (fun _ _ => 0)
    case atStart => exact ⟨rfl, rfl⟩
    case round =>
      obtain ⟨rfl, rfl⟩ := hrel
      go_wp2
      all_goals first
        | (go_ret; exact ⟨Kp.refl _ _, .inl rfl⟩)
        | (exfalso; omega)
  have c0 := (unhide H).2 i0 y0 hy0
  have j0 : (i0 : Int) < (n : Int) := by omega
  clear S0 hy0
  go_wp2
  go_loopw [5] (fun x wr => ∃ i : Nat, i ≤ n ∧ p < i ∧ x = .int .i64 i ∧ Kp [] w wr ∧ Pass t (p + 1) i) (fun x _ => n - (intOf x).toNat)
  case atStart => exact ⟨i0, g1, by omega, rfl, Kp.refl _ _, unhide P0⟩
  case round =>
    obtain ⟨i, hin, hpi, rfl, hK, hPi⟩ := hrel
    have HK := hide hK
    have HPI := hide hPi
    have TR := hide ((unhide H).keep hK)
    clear hK hPi
    by_cases hlt : i < n
    case neg =>
      go_wp2
      all_goals first
        | (go_ret; exact ⟨unhide HK, .inl rfl⟩)
        | (exfalso; omega)
    have j1 : (i : Int) < (n : Int) := by omega
    have C := hide ((unhide IH) i wr hpi hin (unhide TR))
    go_wp2_with fail
    refine (unhide C).mono ?_
    clear C
    rintro e u ⟨ku, rfl | ⟨k, rfl, hV, _⟩⟩
    · have HKU := hide ((unhide HK).trans ku)
      clear ku
      simp only []
      go_wp2
      all_goals first
        | (go_ret; exact ⟨unhide HKU, .inl rfl⟩)
        | (exfalso; omega)
    · have HKU := hide ((unhide HK).trans ku)
      have TU := hide ((unhide TR).keep ku)
      have hik := hV.le
      have hikn : k ≤ n := by have := unhide HN; omega
      obtain ⟨i1, hi1⟩ : ∃ i1, i1 = ws t k := ⟨_, rfl⟩
      have l1 : k ≤ i1 := by rw [hi1]; exact ws_ge _ _
      have l2 : i1 ≤ n := by rw [hi1, ← unhide HN]; exact ws_le _ _ hik.2
      have P1 : Hid (Pass t (p + 1) i1) := by rw [hi1]; exact ((unhide HPI).trans hV.pass).trans (pass_ws _ _)
      have C := ws14 b o n c k t u (unhide TU) (unhide HN) hl hikn
      rw [← hi1] at C
      have C := hide C
      have hki : i < k := hik.1
      have jk : ¬ (k : Int) < 0 := by omega
      clear ku hV hi1 hik
      simp only []
      go_wp2_with fail
      refine (unhide C).mono ?_
      rintro e w' ⟨hw, rfl⟩
      have hw := hw.symm
      subst hw
      simp only []
      clear C
      by_cases h1n : i1 < n
      case neg =>
        have j2 : ¬ (i1 : Int) < (n : Int) := by omega
        go_wp2
        all_goals first
          | (go_ret; exact ⟨unhide HKU, .inl rfl⟩)
          | (exfalso; omega)
      obtain ⟨y, hy⟩ := getElem?_lt_some t i1 (by have := unhide HN; omega)
      have c1 := (unhide TU).2 i1 y hy
      have j2 : (i1 : Int) < (n : Int) := by omega
      by_cases h93 : y = 93
      · subst h93
        have F := hide ((unhide FIN) i1 (by omega) hy (unhide P1))
        clear hy
        go_wp2
        go_ret
        exact ⟨unhide HKU, .inr ⟨i1 + 1, by go_num, unhide F⟩⟩
      have g93 : (y == 93) = false := by simp [h93]
      by_cases h44 : y = 44
      case neg =>
        have g44 : (y != 44) = true := by simp [h44]
        clear hy
        go_wp2
        all_goals first
          | (go_ret; exact ⟨unhide HKU, .inl rfl⟩)
          | (exfalso; simp_all)
      subst h44
      obtain ⟨i2, hi2⟩ : ∃ i2, i2 = ws t (i1 + 1) := ⟨_, rfl⟩
      have l3 : i1 + 1 ≤ i2 := by rw [hi2]; exact ws_ge _ _
      have l4 : i2 ≤ n := by rw [hi2, ← unhide HN]; exact ws_le _ _ (by have := unhide HN; omega)
      have P2 : Hid (Pass t (p + 1) i2) := by rw [hi2]; exact ((unhide P1).trans (Pass.char hy (by decide) (by decide) (by decide) (by decide) (by decide))).trans (pass_ws _ _)
      have C := ws14 b o n c (i1 + 1) t u (unhide TU) (unhide HN) hl (by omega)
      rw [← hi2] at C
      have C := hide C
      clear hy hi2
      go_wp2_with fail
      refine (unhide C).mono ?_
      rintro e w' ⟨hw, rfl⟩
      have hw := hw.symm
      subst hw
      simp only []
      clear C
      go_wp2
      go_roundw
      case rel => exact ⟨i2, l4, by omega, rfl, unhide HKU, unhide P2⟩
      case measure => simp [intOf]; omega
end Go.Proofs.Qxb6601492a
