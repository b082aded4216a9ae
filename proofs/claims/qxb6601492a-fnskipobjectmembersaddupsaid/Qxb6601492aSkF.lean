/-
  SkipObject: zzNumberEnd (29): the whole.
-/
import Derived.Test.Qxb6601492aSkE
set_option linter.unusedSimpArgs false
set_option linter.unusedVariables false
namespace Go.Proofs.Qxb6601492a
open Go.RowKit

set_option maxRecDepth 1000000 in
set_option maxHeartbeats 4000000 in
theorem num29 (b o n c p : Nat) (t : List Int) (w : World) (hT : Txt w b o t) (hn : t.length = n) (hl : n ≤ 65536) (hp : p < n) :
    Calls Try.prog 29 #[.slice (some ⟨b, o, none⟩) n c, .int .i64 p] w (ScO w t p) := by
  have H := hide hT.2
  have HN := hide hn
  clear hT hn
  obtain ⟨y, hy⟩ := getElem?_lt_some t p (by have := unhide HN; omega)
  have c1 := (unhide H) p y hy
  have i0 : ¬ (p : Int) < 0 := by omega
  have j1 : (p : Int) < (n : Int) := by omega
  by_cases hm : y = 45
  · subst hm
    have PM := hide ((PC.nil t p).snoc hy rfl)
    clear hy
    by_cases hp1 : p + 1 < n
    case neg =>
      have j2 : ¬ (p : Int) + 1 < (n : Int) := by omega
      go_enter Try.func29, Try.ntmps29
      go_wp2
      all_goals first
        | (go_ret; exact ⟨Kp.refl _ _, .inl rfl⟩)
        | (exfalso; omega)
    have j2 : (p : Int) + 1 < (n : Int) := by omega
    go_enter Try.func29, Try.ntmps29
    obtain ⟨y, hy⟩ := getElem?_lt_some t (p + 1) (by have := unhide HN; omega)
    have c1 : w.cell? ⟨b, o + (p + 1), none⟩ = some (.int .u8 y) := (unhide H) (p + 1) y hy
    by_cases he : y = 48
    · subst he
      have P1 := hide ((unhide PM).snoc hy rfl)
      clear hy
      go_upto_region 14 with fail
      refine num14 b o n c p (p + 1 + 1) t w _ _ _ _ _ _ _ _ _ _ _ _ _ _ _ _ _ _ _ _ _ _ _ _ _ _ _ _ _ _ _ _ _ _ _ _ _ _ _ _ _ _ _ _ _ _ _ _ _ _ _ _ _ _ _ _ _ _ _ _ _ _ _ _ _ _ _ _ _ _ _ _ _ _ _ _ _ _ _ _ _ _ _ _ _ _ _ _ _ _ _ _ _ _ _ _ _ _ _ _ _ _ _ _ _ _ _ _ _ _ _ _ _ _ _ _ _ _ _ _ _ _ _ _ _ _ _ _ _ _ _ _ _ _ _ _ _ _ _ _ _ _ _ _ _ _ H HN hl (by omega) (by omega) (P1) _ ?_ _ ?_ <;> assumption
    have ge : (y == 48) = false := by simp [he]
    by_cases h9 : 49 ≤ y ∧ y ≤ 57
    · obtain ⟨h91, h92⟩ := h9
      have HD : Hid (dg y = true) := by show _ = _; simp [dg]; omega
      have P0 := hide (unhide PM)
      have HY := hide hy
      clear hy
      go_wp2
      go_loop [5] (fun x => ∃ m : Nat, p + 1 ≤ m ∧ m ≤ n ∧ x = .int .i64 m ∧ PC t p m) (fun x => n - (intOf x).toNat)
      case atStart => exact ⟨p + 1, Nat.le_refl _, by omega, by go_num, unhide P0⟩
      case round =>
        obtain ⟨m, hm0, hmn, rfl, hpcm⟩ := hrel
        have PCM := hide hpcm
        clear hpcm
        by_cases hml : m < n
        · obtain ⟨z, hz⟩ := getElem?_lt_some t m (by have := unhide HN; omega)
          have cz := (unhide H) m z hz
          have jz : (m : Int) < (n : Int) := by omega
          have C := hide (dig37 z w)
          cases hdz : dg z
          · have HZ := hide hz
            have HDZ := hide hdz
            rw [hdz] at C
            clear hdz hz
            go_wp2_with fail
            refine (unhide C).mono ?_
            clear C
            rintro e w' ⟨hw, rfl⟩
            have hw := hw.symm
            subst hw
            simp only []
            go_upto_region 14 with fail
            refine num14 b o n c p m t w _ _ _ _ _ _ _ _ _ _ _ _ _ _ _ _ _ _ _ _ _ _ _ _ _ _ _ _ _ _ _ _ _ _ _ _ _ _ _ _ _ _ _ _ _ _ _ _ _ _ _ _ _ _ _ _ _ _ _ _ _ _ _ _ _ _ _ _ _ _ _ _ _ _ _ _ _ _ _ _ _ _ _ _ _ _ _ _ _ _ _ _ _ _ _ _ _ _ _ _ _ _ _ _ _ _ _ _ _ _ _ _ _ _ _ _ _ _ _ _ _ _ _ _ _ _ _ _ _ _ _ _ _ _ _ _ _ _ _ _ _ _ _ _ _ _ H HN hl (by omega) (by omega) (PCM) _ ?_ _ ?_ <;> assumption
          · have PN := hide ((unhide PCM).snoc hz (dg_plain hdz))
            rw [hdz] at C
            clear hdz hz
            go_wp2_with fail
            refine (unhide C).mono ?_
            clear C
            rintro e w' ⟨hw, rfl⟩
            have hw := hw.symm
            subst hw
            simp only []
            go_wp2
            go_round
            case rel => exact ⟨m + 1, by omega, by omega, by go_num, unhide PN⟩
            case measure => simp [intOf]; omega
        · have jz : ¬ (m : Int) < (n : Int) := by omega
          go_upto_region 14 with fail
          refine num14 b o n c p m t w _ _ _ _ _ _ _ _ _ _ _ _ _ _ _ _ _ _ _ _ _ _ _ _ _ _ _ _ _ _ _ _ _ _ _ _ _ _ _ _ _ _ _ _ _ _ _ _ _ _ _ _ _ _ _ _ _ _ _ _ _ _ _ _ _ _ _ _ _ _ _ _ _ _ _ _ _ _ _ _ _ _ _ _ _ _ _ _ _ _ _ _ _ _ _ _ _ _ _ _ _ _ _ _ _ _ _ _ _ _ _ _ _ _ _ _ _ _ _ _ _ _ _ _ _ _ _ _ _ _ _ _ _ _ _ _ _ _ _ _ _ _ _ _ _ _ H HN hl (by omega) (by omega) (PCM) _ ?_ _ ?_ <;> assumption
    · have h9' : ¬ 49 ≤ y ∨ ¬ y ≤ 57 := by omega
      clear hy h9
      rcases h9' with h9 | h9
      · go_wp2
        all_goals first
          | (go_ret; exact ⟨Kp.refl _ _, .inl rfl⟩)
          | (exfalso; omega)
      · go_wp2
        all_goals first
          | (go_ret; exact ⟨Kp.refl _ _, .inl rfl⟩)
          | (exfalso; omega)
  · have gm : (y == 45) = false := by simp [hm]
    go_enter Try.func29, Try.ntmps29
    by_cases he : y = 48
    · subst he
      have P1 := hide ((PC.nil t p).snoc hy rfl)
      clear hy
      go_upto_region 14 with fail
      refine num14 b o n c p (p + 1) t w _ _ _ _ _ _ _ _ _ _ _ _ _ _ _ _ _ _ _ _ _ _ _ _ _ _ _ _ _ _ _ _ _ _ _ _ _ _ _ _ _ _ _ _ _ _ _ _ _ _ _ _ _ _ _ _ _ _ _ _ _ _ _ _ _ _ _ _ _ _ _ _ _ _ _ _ _ _ _ _ _ _ _ _ _ _ _ _ _ _ _ _ _ _ _ _ _ _ _ _ _ _ _ _ _ _ _ _ _ _ _ _ _ _ _ _ _ _ _ _ _ _ _ _ _ _ _ _ _ _ _ _ _ _ _ _ _ _ _ _ _ _ _ _ _ _ H HN hl (by omega) (by omega) (P1) _ ?_ _ ?_ <;> assumption
    have ge : (y == 48) = false := by simp [he]
    by_cases h9 : 49 ≤ y ∧ y ≤ 57
    · obtain ⟨h91, h92⟩ := h9
      have HD : Hid (dg y = true) := by show _ = _; simp [dg]; omega
      have P0 := hide (PC.nil t p)
      have HY := hide hy
      clear hy
      go_wp2
      go_loop [5] (fun x => ∃ m : Nat, p ≤ m ∧ m ≤ n ∧ x = .int .i64 m ∧ PC t p m) (fun x => n - (intOf x).toNat)
      case atStart => exact ⟨p, Nat.le_refl _, by omega, by go_num, unhide P0⟩
      case round =>
        obtain ⟨m, hm0, hmn, rfl, hpcm⟩ := hrel
        have PCM := hide hpcm
        clear hpcm
        by_cases hml : m < n
        · obtain ⟨z, hz⟩ := getElem?_lt_some t m (by have := unhide HN; omega)
          have cz := (unhide H) m z hz
          have jz : (m : Int) < (n : Int) := by omega
          have C := hide (dig37 z w)
          cases hdz : dg z
          · have HZ := hide hz
            have HDZ := hide hdz
            rw [hdz] at C
            clear hdz hz
            go_wp2_with fail
            refine (unhide C).mono ?_
            clear C
            rintro e w' ⟨hw, rfl⟩
            have hw := hw.symm
            subst hw
            simp only []
            by_cases hmd : m = p
            · exfalso
              subst hmd
              have h1 := unhide HZ
              rw [unhide HY] at h1
              cases h1
              have h2 := unhide HDZ
              rw [unhide HD] at h2
              cases h2
            have hpm : p < m := by omega
            go_upto_region 14 with fail
            refine num14 b o n c p m t w _ _ _ _ _ _ _ _ _ _ _ _ _ _ _ _ _ _ _ _ _ _ _ _ _ _ _ _ _ _ _ _ _ _ _ _ _ _ _ _ _ _ _ _ _ _ _ _ _ _ _ _ _ _ _ _ _ _ _ _ _ _ _ _ _ _ _ _ _ _ _ _ _ _ _ _ _ _ _ _ _ _ _ _ _ _ _ _ _ _ _ _ _ _ _ _ _ _ _ _ _ _ _ _ _ _ _ _ _ _ _ _ _ _ _ _ _ _ _ _ _ _ _ _ _ _ _ _ _ _ _ _ _ _ _ _ _ _ _ _ _ _ _ _ _ _ H HN hl (by omega) (by omega) (PCM) _ ?_ _ ?_ <;> assumption
          · have PN := hide ((unhide PCM).snoc hz (dg_plain hdz))
            rw [hdz] at C
            clear hdz hz
            go_wp2_with fail
            refine (unhide C).mono ?_
            clear C
            rintro e w' ⟨hw, rfl⟩
            have hw := hw.symm
            subst hw
            simp only []
            go_wp2
            go_round
            case rel => exact ⟨m + 1, by omega, by omega, by go_num, unhide PN⟩
            case measure => simp [intOf]; omega
        · have jz : ¬ (m : Int) < (n : Int) := by omega
          go_upto_region 14 with fail
          refine num14 b o n c p m t w _ _ _ _ _ _ _ _ _ _ _ _ _ _ _ _ _ _ _ _ _ _ _ _ _ _ _ _ _ _ _ _ _ _ _ _ _ _ _ _ _ _ _ _ _ _ _ _ _ _ _ _ _ _ _ _ _ _ _ _ _ _ _ _ _ _ _ _ _ _ _ _ _ _ _ _ _ _ _ _ _ _ _ _ _ _ _ _ _ _ _ _ _ _ _ _ _ _ _ _ _ _ _ _ _ _ _ _ _ _ _ _ _ _ _ _ _ _ _ _ _ _ _ _ _ _ _ _ _ _ _ _ _ _ _ _ _ _ _ _ _ _ _ _ _ _ H HN hl (by omega) (by omega) (PCM) _ ?_ _ ?_ <;> assumption
    · have h9' : ¬ 49 ≤ y ∨ ¬ y ≤ 57 := by omega
      clear hy h9
      rcases h9' with h9 | h9
      · go_wp2
        all_goals first
          | (go_ret; exact ⟨Kp.refl _ _, .inl rfl⟩)
          | (exfalso; omega)
      · go_wp2
        all_goals first
          | (go_ret; exact ⟨Kp.refl _ _, .inl rfl⟩)
          | (exfalso; omega)
end Go.Proofs.Qxb6601492a
