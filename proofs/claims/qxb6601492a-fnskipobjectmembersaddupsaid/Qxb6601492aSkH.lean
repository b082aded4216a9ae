/-
  SkipObject: zzObjectEnd (26).
-/
import Derived.Test.Qxb6601492aSkG
set_option linter.unusedSimpArgs false
set_option linter.unusedVariables false
namespace Go.Proofs.Qxb6601492a
open Go.RowKit

set_option maxRecDepth 100000 in
set_option maxHeartbeats 2000000 in
theorem obj26 (b o n c p : Nat) (t : List Int) (w : World) (hT : Txt w b o t) (hn : t.length = n) (hl : n ≤ 65536) (hp : t[p]? = some 123)
    (IH : Hid (∀ q u, p < q → q ≤ n → Txt u b o t → Calls Try.prog 13 #[.slice (some ⟨b, o, none⟩) n c, .int .i64 (q : Nat)] u (VO u t q))) :
    Calls Try.prog 26 #[.slice (some ⟨b, o, none⟩) n c, .int .i64 p] w (OO w t p) := by
  have hpn : p < n := by have := lt_of_at hp; omega
  have H := hide hT
  have HN := hide hn
  have HP := hide hp
  obtain ⟨i0, hi0⟩ : ∃ i, i = ws t (p + 1) := ⟨_, rfl⟩
  have g0 : p + 1 ≤ i0 := by rw [hi0]; exact ws_ge _ _
  have g1 : i0 ≤ n := by rw [hi0, ← hn]; exact ws_le _ _ (by omega)
  have P0 : Hid (Pass t (p + 1) i0) := by rw [hi0]; exact pass_ws _ _
  have HI0 := hide hi0
  have C := ws14 b o n c (p + 1) t w hT hn hl (by omega)
  rw [← hi0] at C
  have C := hide C
  clear hT hn hp hi0
  go_enter Try.func26, Try.ntmps26
  go_wp2_with fail
  refine (unhide C).mono ?_
  rintro e w' ⟨hw, rfl⟩
  have hw := hw.symm
  subst hw
  simp only []
  clear C
  have FIN : Hid (∀ q, p < q → t[q]? = some 125 → Pass t (p + 1) q → OBJ t p (q + 1)) := fun q h1 h2 h3 => ⟨⟨123, unhide HP, .inl rfl⟩, q, rfl, h1, ⟨125, h2, .inl rfl⟩, h3⟩
  by_cases hlt0 : i0 < n ∧ t[i0]? = some 125
  · obtain ⟨hlt0, hc0⟩ := hlt0
    have c0 := (unhide H).2 i0 125 hc0
    have j0 : (i0 : Int) < (n : Int) := by omega
    have F := hide ((unhide FIN) i0 (by omega) hc0 (unhide P0))
    have M : Hid (Mem t p (i0 + 1)) := by
      rw [unhide HI0] at hc0 ⊢
      exact .inl ⟨hc0, rfl⟩
    clear hc0
    go_wp2
    go_ret
    exact ⟨Kp.refl _ _, .inr ⟨i0 + 1, by go_num, unhide F, unhide M⟩⟩
  have S0 : Hid (∀ (Q : Prop), (i0 < n → ∀ y, t[i0]? = some y → (y == 125) = false → Q) → (¬ i0 < n → Q) → Q) := fun Q q1 q2 => by
    by_cases h : i0 < n
    · obtain ⟨y, hy⟩ := getElem?_lt_some t i0 (by have := unhide HN; omega)
      refine q1 h y hy ?_
      cases e : y == 125 with
      | false => rfl
      | true => exact absurd ⟨h, by rw [hy]; simp at e; rw [e]⟩ hlt0
    · exact q2 h
  clear hlt0
  refine (unhide S0) _ (fun hlt0 y0 hy0 gy0 => ?_) (fun hlt0 => ?_)
  case refine_2 =>
    have j0 : ¬ (i0 : Int) < (n : Int) := by omega
    go_wp2
    go_loopw [5] (fun x wr => x = .int .i64 i0 ∧ wr = w) (fun _ _ => 0)
    case atStart => exact ⟨rfl, rfl⟩
    case round =>
      obtain ⟨rfl, rfl⟩ := hrel
      go_wp2
      all_goals first
        | (go_ret; exact ⟨Kp.refl _ _, .inl rfl⟩)
        | (exfalso; omega)
  have c0 := (unhide H).2 i0 y0 hy0
  have j0 : (i0 : Int) < (n : Int) := by omega
  clear S0 hy0
  go_wp2
  go_loopw [5] (fun x wr => ∃ i : Nat, i ≤ n ∧ p < i ∧ i0 ≤ i ∧ x = .int .i64 i ∧ Kp [] w wr ∧ Pass t (p + 1) i ∧ ∀ f e, MW t f i e → ∃ f', f' + i0 ≤ f + i ∧ MW t f' i0 e) (fun x _ => n - (intOf x).toNat)
  case atStart => exact ⟨i0, g1, by omega, Nat.le_refl _, rfl, Kp.refl _ _, unhide P0, fun f e h => ⟨f, Nat.le_refl _, h⟩⟩
  case round =>
    obtain ⟨i, hin, hpi, h0i, rfl, hK, hPi, hMW⟩ := hrel
    have HK := hide hK
    have HPI := hide hPi
    have HMW := hide hMW
    have TR := hide ((unhide H).keep hK)
    clear hK hPi hMW
    by_cases hlt : i < n
    case neg =>
      go_wp2
      all_goals first
        | (go_ret; exact ⟨unhide HK, .inl rfl⟩)
        | (exfalso; omega)
    have j1 : (i : Int) < (n : Int) := by omega
    have C := hide (str25 b o n c i t wr (unhide TR) (unhide HN) hl hlt)
    go_wp2_with fail
    refine (unhide C).mono ?_
    clear C
    rintro e u ⟨hu, rfl | ⟨k, rfl, hS⟩⟩
    · have hu := hu.symm
      subst hu
      simp only []
      go_wp2
      all_goals first
        | (go_ret; exact ⟨unhide HK, .inl rfl⟩)
        | (exfalso; omega)
    have hu := hu.symm
    subst hu
    have hsk := hS.le
    have hkn : k ≤ n := by have := unhide HN; omega
    have hki : i < k := hsk.1
    have jk : ¬ (k : Int) < 0 := by omega
    have HS := hide hS
    obtain ⟨i1, hi1⟩ : ∃ i1, i1 = ws t k := ⟨_, rfl⟩
    have l1 : k ≤ i1 := by rw [hi1]; exact ws_ge _ _
    have l2 : i1 ≤ n := by rw [hi1, ← unhide HN]; exact ws_le _ _ hsk.2
    have P1 : Hid (Pass t (p + 1) i1) := by rw [hi1]; exact ((unhide HPI).trans hS.pass).trans (pass_ws _ _)
    have C := ws14 b o n c k t wr (unhide TR) (unhide HN) hl hkn
    rw [← hi1] at C
    have C := hide C
    have HI1 := hide hi1
    clear hS hi1 hsk
    simp only []
    go_wp2_with fail
    refine (unhide C).mono ?_
    rintro e w' ⟨hw, rfl⟩
    have hw := hw.symm
    subst hw
    simp only []
    clear C
    by_cases h1n : i1 < n
    case neg =>
      have j2 : ¬ (i1 : Int) < (n : Int) := by omega
      go_wp2
      all_goals first
        | (go_ret; exact ⟨unhide HK, .inl rfl⟩)
        | (exfalso; omega)
    obtain ⟨y1, hy1⟩ := getElem?_lt_some t i1 (by have := unhide HN; omega)
    have c1 := (unhide TR).2 i1 y1 hy1
    have j2 : (i1 : Int) < (n : Int) := by omega
    by_cases h58 : y1 = 58
    case neg =>
      have g58 : (y1 != 58) = true := by simp [h58]
      clear hy1
      go_wp2
      all_goals first
        | (go_ret; exact ⟨unhide HK, .inl rfl⟩)
        | (exfalso; simp_all)
    subst h58
    have HY1 := hide hy1
    obtain ⟨i2, hi2⟩ : ∃ i2, i2 = ws t (i1 + 1) := ⟨_, rfl⟩
    have l3 : i1 + 1 ≤ i2 := by rw [hi2]; exact ws_ge _ _
    have l4 : i2 ≤ n := by rw [hi2, ← unhide HN]; exact ws_le _ _ (by have := unhide HN; omega)
    have P2 : Hid (Pass t (p + 1) i2) := by rw [hi2]; exact ((unhide P1).trans (Pass.char hy1 (by decide) (by decide) (by decide) (by decide) (by decide))).trans (pass_ws _ _)
    have C := ws14 b o n c (i1 + 1) t wr (unhide TR) (unhide HN) hl (by omega)
    rw [← hi2] at C
    have C := hide C
    have HI2 := hide hi2
    clear hy1 hi2
    go_wp2_with fail
    refine (unhide C).mono ?_
    rintro e w' ⟨hw, rfl⟩
    have hw := hw.symm
    subst hw
    simp only []
    clear C
    have C := hide ((unhide IH) i2 wr (by omega) l4 (unhide TR))
    go_wp2_with fail
    refine (unhide C).mono ?_
    clear C
    rintro e u ⟨ku, rfl | ⟨k2, rfl, hV, _⟩⟩
    · have HKU := hide ((unhide HK).trans ku)
      clear ku
      simp only []
      go_wp2
      all_goals first
        | (go_ret; exact ⟨unhide HKU, .inl rfl⟩)
        | (exfalso; omega)
    have HKU := hide ((unhide HK).trans ku)
    have TU := hide ((unhide TR).keep ku)
    have hik := hV.le
    have hikn : k2 ≤ n := by have := unhide HN; omega
    have hk2 : i2 < k2 := hik.1
    have jk2 : ¬ (k2 : Int) < 0 := by omega
    obtain ⟨i3, hi3⟩ : ∃ i3, i3 = ws t k2 := ⟨_, rfl⟩
    have l5 : k2 ≤ i3 := by rw [hi3]; exact ws_ge _ _
    have l6 : i3 ≤ n := by rw [hi3, ← unhide HN]; exact ws_le _ _ hik.2
    have P3 : Hid (Pass t (p + 1) i3) := by rw [hi3]; exact ((unhide P2).trans hV.pass).trans (pass_ws _ _)
    have C := ws14 b o n c k2 t u (unhide TU) (unhide HN) hl hikn
    rw [← hi3] at C
    have C := hide C
    have HV := hide hV
    have HI3 := hide hi3
    clear ku hV hi3 hik
    simp only []
    go_wp2_with fail
    refine (unhide C).mono ?_
    rintro e w' ⟨hw, rfl⟩
    have hw := hw.symm
    subst hw
    simp only []
    clear C
    by_cases h3n : i3 < n
    case neg =>
      have j4 : ¬ (i3 : Int) < (n : Int) := by omega
      go_wp2
      all_goals first
        | (go_ret; exact ⟨unhide HKU, .inl rfl⟩)
        | (exfalso; omega)
    obtain ⟨y, hy⟩ := getElem?_lt_some t i3 (by have := unhide HN; omega)
    have c3 := (unhide TU).2 i3 y hy
    have j4 : (i3 : Int) < (n : Int) := by omega
    have MST : Hid (∀ f e, ender y = true → ((t[ws t k2]? = some 125 ∧ e = ws t k2 + 1) ∨ (t[ws t k2]? = some 44 ∧ MW t f (ws t (ws t k2 + 1)) e)) → MW t (f + 1) i e) := fun f e he h =>
      ⟨k, k2, unhide HS, by rw [← unhide HI1]; exact unhide HY1, by rw [← unhide HI1, ← unhide HI2, unhide HN]; omega, by rw [← unhide HI1, ← unhide HI2]; exact (unhide HV).sk (c := y) (by rw [← unhide HI3]; exact hy) he, h⟩
    by_cases h125 : y = 125
    · subst h125
      have F := hide ((unhide FIN) i3 (by omega) hy (unhide P3))
      have M : Hid (Mem t p (i3 + 1)) := by
        obtain ⟨f', hf', hm'⟩ := (unhide HMW) 1 (i3 + 1) ((unhide MST) 0 (i3 + 1) (by decide) (.inl (by rw [← unhide HI3]; exact ⟨hy, rfl⟩)))
        refine .inr ⟨f', by have := unhide HN; omega, ?_⟩
        rw [← unhide HI0]
        exact hm'
      clear hy
      go_wp2
      go_ret
      exact ⟨unhide HKU, .inr ⟨i3 + 1, by go_num, unhide F, unhide M⟩⟩
    have g125 : (y == 125) = false := by simp [h125]
    by_cases h44 : y = 44
    case neg =>
      have g44 : (y != 44) = true := by simp [h44]
      clear hy MST
      go_wp2
      all_goals first
        | (go_ret; exact ⟨unhide HKU, .inl rfl⟩)
        | (exfalso; simp_all)
    subst h44
    obtain ⟨i4, hi4⟩ : ∃ i4, i4 = ws t (i3 + 1) := ⟨_, rfl⟩
    have l7 : i3 + 1 ≤ i4 := by rw [hi4]; exact ws_ge _ _
    have l8 : i4 ≤ n := by rw [hi4, ← unhide HN]; exact ws_le _ _ (by have := unhide HN; omega)
    have P4 : Hid (Pass t (p + 1) i4) := by rw [hi4]; exact ((unhide P3).trans (Pass.char hy (by decide) (by decide) (by decide) (by decide) (by decide))).trans (pass_ws _ _)
    have M4 : Hid (∀ f e, MW t f i4 e → ∃ f', f' + i0 ≤ f + i4 ∧ MW t f' i0 e) := fun f e h => by
      obtain ⟨f', h1, h2⟩ := (unhide HMW) (f + 1) e ((unhide MST) f e (by decide) (.inr (by rw [← unhide HI3, ← hi4]; exact ⟨hy, h⟩)))
      exact ⟨f', by omega, h2⟩
    have C := ws14 b o n c (i3 + 1) t u (unhide TU) (unhide HN) hl (by omega)
    rw [← hi4] at C
    have C := hide C
    clear hy hi4
    go_wp2_with fail
    refine (unhide C).mono ?_
    rintro e w' ⟨hw, rfl⟩
    have hw := hw.symm
    subst hw
    simp only []
    clear C
    go_wp2
    go_roundw
    case rel => exact ⟨i4, l8, by omega, by omega, rfl, unhide HKU, unhide P4, unhide M4⟩
    case measure => simp [intOf]; omega
end Go.Proofs.Qxb6601492a
