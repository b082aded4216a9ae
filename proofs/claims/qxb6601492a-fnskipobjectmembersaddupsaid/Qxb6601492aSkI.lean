/-
  SkipObject: zzValueEnd (13).
-/
import Derived.Test.Qxb6601492aSkH
set_option linter.unusedSimpArgs false
set_option linter.unusedVariables false
namespace Go.Proofs.Qxb6601492a
open Go.RowKit

set_option maxRecDepth 100000 in
set_option maxHeartbeats 4000000 in
theorem val13 (b o n c : Nat) (t : List Int) (hn : t.length = n) (hl : n ≤ 65536) : ∀ (m p : Nat) (u : World), n - p ≤ m → p ≤ n → Txt u b o t → Calls Try.prog 13 #[.slice (some ⟨b, o, none⟩) n c, .int .i64 (p : Nat)] u (VO u t p) := by
  have HN := hide hn
  clear hn
  intro m
  induction m with
  | zero =>
    intro p u hm hp hT
    obtain rfl : p = n := by omega
    have j0 : ¬ (p : Int) < 0 := by omega
    clear hT
    go_enter Try.func13, Try.ntmps13
    go_wp2
    all_goals first
      | (go_ret; exact ⟨Kp.refl _ _, .inl rfl⟩)
      | (exfalso; omega)
  | succ m ih =>
    intro p u hm hp hT
    have j0 : ¬ (p : Int) < 0 := by omega
    have H := hide hT
    by_cases hpn : p < n
    case neg =>
      obtain rfl : p = n := by omega
      clear hT
      go_enter Try.func13, Try.ntmps13
      go_wp2
      all_goals first
        | (go_ret; exact ⟨Kp.refl _ _, .inl rfl⟩)
        | (exfalso; omega)
    have IH : Hid (Hid (∀ q u, p < q → q ≤ n → Txt u b o t → Calls Try.prog 13 #[.slice (some ⟨b, o, none⟩) n c, .int .i64 (q : Nat)] u (VO u t q))) := fun q u h1 h2 h3 => ih q u (by omega) h2 h3
    clear ih hT
    obtain ⟨y, hy⟩ := getElem?_lt_some t p (by have := unhide HN; omega)
    have c1 := (unhide H).2 p y hy
    have j1 : (p : Int) < (n : Int) := by omega
    have HY0 := hide hy
    by_cases hv : y = 34
    · subst hv
      have HY := hide hy
      have C := hide (str25 b o n c p t u (unhide H) (unhide HN) hl hpn)
      clear hy
      go_enter Try.func13, Try.ntmps13
      go_wp2_with fail
      refine (unhide C).mono ?_
      clear C
      rintro e u' ⟨hu, rfl | ⟨k, rfl, hS⟩⟩
      · have hu := hu.symm
        subst hu
        simp only []
        go_wp2
        go_ret
        exact ⟨Kp.refl _ _, .inl rfl⟩
      · have hu := hu.symm
        subst hu
        have HS := hide hS
        clear hS
        simp only []
        go_wp2
        go_ret
        exact ⟨Kp.refl _ _, .inr ⟨k, rfl, .inl (unhide HS), fun h => by rw [unhide HY] at h; cases h⟩⟩
    have g34 : (y == 34) = false := by simp [hv]
    clear hv
    by_cases hv : y = 123
    · subst hv
      have HY := hide hy
      have C := hide (obj26 b o n c p t u (unhide H) (unhide HN) hl hy (unhide IH))
      clear hy
      go_enter Try.func13, Try.ntmps13
      go_wp2_with fail
      refine (unhide C).mono ?_
      clear C
      rintro e u' ⟨ku, rfl | ⟨k, rfl, hS⟩⟩
      · have HK := hide ku
        clear ku
        simp only []
        go_wp2
        go_ret
        exact ⟨unhide HK, .inl rfl⟩
      · have HK := hide ku
        have HS := hide hS
        clear ku hS
        simp only []
        go_wp2
        go_ret
        exact ⟨unhide HK, .inr ⟨k, rfl, .inr (.inl (unhide HS).1), fun _ => (unhide HS).2⟩⟩
    have g123 : (y == 123) = false := by simp [hv]
    clear hv
    by_cases hv : y = 91
    · subst hv
      have HY := hide hy
      have C := hide (arr27 b o n c p t u (unhide H) (unhide HN) hl hy (unhide IH))
      clear hy
      go_enter Try.func13, Try.ntmps13
      go_wp2_with fail
      refine (unhide C).mono ?_
      clear C
      rintro e u' ⟨ku, rfl | ⟨k, rfl, hS⟩⟩
      · have HK := hide ku
        clear ku
        simp only []
        go_wp2
        go_ret
        exact ⟨unhide HK, .inl rfl⟩
      · have HK := hide ku
        have HS := hide hS
        clear ku hS
        simp only []
        go_wp2
        go_ret
        exact ⟨unhide HK, .inr ⟨k, rfl, .inr (.inl (unhide HS)), fun h => by rw [unhide HY] at h; cases h⟩⟩
    have g91 : (y == 91) = false := by simp [hv]
    clear hv
    by_cases hv : y = 116
    · subst hv
      have HY := hide hy
      have C := hide (litTrue b o n c p t u (unhide H) (unhide HN) hl hpn)
      clear hy
      go_enter Try.func13, Try.ntmps13
      go_wp2_with fail
      refine (unhide C).mono ?_
      clear C
      rintro e u' ⟨ku, rfl | ⟨k, rfl, hS⟩⟩
      · have HK := hide ku
        clear ku
        simp only []
        go_wp2
        go_ret
        exact ⟨unhide HK, .inl rfl⟩
      · have HK := hide ku
        have HS := hide hS
        clear ku hS
        simp only []
        go_wp2
        go_ret
        exact ⟨unhide HK, .inr ⟨k, rfl, .inr (.inr (unhide HS)), fun h => by rw [unhide HY] at h; cases h⟩⟩
    have g116 : (y == 116) = false := by simp [hv]
    clear hv
    by_cases hv : y = 102
    · subst hv
      have HY := hide hy
      have C := hide (litFalse b o n c p t u (unhide H) (unhide HN) hl hpn)
      clear hy
      go_enter Try.func13, Try.ntmps13
      go_wp2_with fail
      refine (unhide C).mono ?_
      clear C
      rintro e u' ⟨ku, rfl | ⟨k, rfl, hS⟩⟩
      · have HK := hide ku
        clear ku
        simp only []
        go_wp2
        go_ret
        exact ⟨unhide HK, .inl rfl⟩
      · have HK := hide ku
        have HS := hide hS
        clear ku hS
        simp only []
        go_wp2
        go_ret
        exact ⟨unhide HK, .inr ⟨k, rfl, .inr (.inr (unhide HS)), fun h => by rw [unhide HY] at h; cases h⟩⟩
    have g102 : (y == 102) = false := by simp [hv]
    clear hv
    by_cases hv : y = 110
    · subst hv
      have HY := hide hy
      have C := hide (litNull b o n c p t u (unhide H) (unhide HN) hl hpn)
      clear hy
      go_enter Try.func13, Try.ntmps13
      go_wp2_with fail
      refine (unhide C).mono ?_
      clear C
      rintro e u' ⟨ku, rfl | ⟨k, rfl, hS⟩⟩
      · have HK := hide ku
        clear ku
        simp only []
        go_wp2
        go_ret
        exact ⟨unhide HK, .inl rfl⟩
      · have HK := hide ku
        have HS := hide hS
        clear ku hS
        simp only []
        go_wp2
        go_ret
        exact ⟨unhide HK, .inr ⟨k, rfl, .inr (.inr (unhide HS)), fun h => by rw [unhide HY] at h; cases h⟩⟩
    have g110 : (y == 110) = false := by simp [hv]
    clear hv
    by_cases hv : y = 45
    · subst hv
      have HY := hide hy
      have C := hide (num29 b o n c p t u (unhide H) (unhide HN) hl hpn)
      clear hy
      go_enter Try.func13, Try.ntmps13
      go_wp2_with fail
      refine (unhide C).mono ?_
      clear C
      rintro e u' ⟨ku, rfl | ⟨k, rfl, hS⟩⟩
      · have HK := hide ku
        clear ku
        simp only []
        go_wp2
        go_ret
        exact ⟨unhide HK, .inl rfl⟩
      · have HK := hide ku
        have HS := hide hS
        clear ku hS
        simp only []
        go_wp2
        go_ret
        exact ⟨unhide HK, .inr ⟨k, rfl, .inr (.inr (unhide HS)), fun h => by rw [unhide HY] at h; cases h⟩⟩
    have g45 : (y == 45) = false := by simp [hv]
    clear hv
    by_cases hv : y = 48
    · subst hv
      have HY := hide hy
      have C := hide (num29 b o n c p t u (unhide H) (unhide HN) hl hpn)
      clear hy
      go_enter Try.func13, Try.ntmps13
      go_wp2_with fail
      refine (unhide C).mono ?_
      clear C
      rintro e u' ⟨ku, rfl | ⟨k, rfl, hS⟩⟩
      · have HK := hide ku
        clear ku
        simp only []
        go_wp2
        go_ret
        exact ⟨unhide HK, .inl rfl⟩
      · have HK := hide ku
        have HS := hide hS
        clear ku hS
        simp only []
        go_wp2
        go_ret
        exact ⟨unhide HK, .inr ⟨k, rfl, .inr (.inr (unhide HS)), fun h => by rw [unhide HY] at h; cases h⟩⟩
    have g48 : (y == 48) = false := by simp [hv]
    clear hv
    by_cases hv : y = 49
    · subst hv
      have HY := hide hy
      have C := hide (num29 b o n c p t u (unhide H) (unhide HN) hl hpn)
      clear hy
      go_enter Try.func13, Try.ntmps13
      go_wp2_with fail
      refine (unhide C).mono ?_
      clear C
      rintro e u' ⟨ku, rfl | ⟨k, rfl, hS⟩⟩
      · have HK := hide ku
        clear ku
        simp only []
        go_wp2
        go_ret
        exact ⟨unhide HK, .inl rfl⟩
      · have HK := hide ku
        have HS := hide hS
        clear ku hS
        simp only []
        go_wp2
        go_ret
        exact ⟨unhide HK, .inr ⟨k, rfl, .inr (.inr (unhide HS)), fun h => by rw [unhide HY] at h; cases h⟩⟩
    have g49 : (y == 49) = false := by simp [hv]
    clear hv
    by_cases hv : y = 50
    · subst hv
      have HY := hide hy
      have C := hide (num29 b o n c p t u (unhide H) (unhide HN) hl hpn)
      clear hy
      go_enter Try.func13, Try.ntmps13
      go_wp2_with fail
      refine (unhide C).mono ?_
      clear C
      rintro e u' ⟨ku, rfl | ⟨k, rfl, hS⟩⟩
      · have HK := hide ku
        clear ku
        simp only []
        go_wp2
        go_ret
        exact ⟨unhide HK, .inl rfl⟩
      · have HK := hide ku
        have HS := hide hS
        clear ku hS
        simp only []
        go_wp2
        go_ret
        exact ⟨unhide HK, .inr ⟨k, rfl, .inr (.inr (unhide HS)), fun h => by rw [unhide HY] at h; cases h⟩⟩
    have g50 : (y == 50) = false := by simp [hv]
    clear hv
    by_cases hv : y = 51
    · subst hv
      have HY := hide hy
      have C := hide (num29 b o n c p t u (unhide H) (unhide HN) hl hpn)
      clear hy
      go_enter Try.func13, Try.ntmps13
      go_wp2_with fail
      refine (unhide C).mono ?_
      clear C
      rintro e u' ⟨ku, rfl | ⟨k, rfl, hS⟩⟩
      · have HK := hide ku
        clear ku
        simp only []
        go_wp2
        go_ret
        exact ⟨unhide HK, .inl rfl⟩
      · have HK := hide ku
        have HS := hide hS
        clear ku hS
        simp only []
        go_wp2
        go_ret
        exact ⟨unhide HK, .inr ⟨k, rfl, .inr (.inr (unhide HS)), fun h => by rw [unhide HY] at h; cases h⟩⟩
    have g51 : (y == 51) = false := by simp [hv]
    clear hv
    by_cases hv : y = 52
    · subst hv
      have HY := hide hy
      have C := hide (num29 b o n c p t u (unhide H) (unhide HN) hl hpn)
      clear hy
      go_enter Try.func13, Try.ntmps13
      go_wp2_with fail
      refine (unhide C).mono ?_
      clear C
      rintro e u' ⟨ku, rfl | ⟨k, rfl, hS⟩⟩
      · have HK := hide ku
        clear ku
        simp only []
        go_wp2
        go_ret
        exact ⟨unhide HK, .inl rfl⟩
      · have HK := hide ku
        have HS := hide hS
        clear ku hS
        simp only []
        go_wp2
        go_ret
        exact ⟨unhide HK, .inr ⟨k, rfl, .inr (.inr (unhide HS)), fun h => by rw [unhide HY] at h; cases h⟩⟩
    have g52 : (y == 52) = false := by simp [hv]
    clear hv
    by_cases hv : y = 53
    · subst hv
      have HY := hide hy
      have C := hide (num29 b o n c p t u (unhide H) (unhide HN) hl hpn)
      clear hy
      go_enter Try.func13, Try.ntmps13
      go_wp2_with fail
      refine (unhide C).mono ?_
      clear C
      rintro e u' ⟨ku, rfl | ⟨k, rfl, hS⟩⟩
      · have HK := hide ku
        clear ku
        simp only []
        go_wp2
        go_ret
        exact ⟨unhide HK, .inl rfl⟩
      · have HK := hide ku
        have HS := hide hS
        clear ku hS
        simp only []
        go_wp2
        go_ret
        exact ⟨unhide HK, .inr ⟨k, rfl, .inr (.inr (unhide HS)), fun h => by rw [unhide HY] at h; cases h⟩⟩
    have g53 : (y == 53) = false := by simp [hv]
    clear hv
    by_cases hv : y = 54
    · subst hv
      have HY := hide hy
      have C := hide (num29 b o n c p t u (unhide H) (unhide HN) hl hpn)
      clear hy
      go_enter Try.func13, Try.ntmps13
      go_wp2_with fail
      refine (unhide C).mono ?_
      clear C
      rintro e u' ⟨ku, rfl | ⟨k, rfl, hS⟩⟩
      · have HK := hide ku
        clear ku
        simp only []
        go_wp2
        go_ret
        exact ⟨unhide HK, .inl rfl⟩
      · have HK := hide ku
        have HS := hide hS
        clear ku hS
        simp only []
        go_wp2
        go_ret
        exact ⟨unhide HK, .inr ⟨k, rfl, .inr (.inr (unhide HS)), fun h => by rw [unhide HY] at h; cases h⟩⟩
    have g54 : (y == 54) = false := by simp [hv]
    clear hv
    by_cases hv : y = 55
    · subst hv
      have HY := hide hy
      have C := hide (num29 b o n c p t u (unhide H) (unhide HN) hl hpn)
      clear hy
      go_enter Try.func13, Try.ntmps13
      go_wp2_with fail
      refine (unhide C).mono ?_
      clear C
      rintro e u' ⟨ku, rfl | ⟨k, rfl, hS⟩⟩
      · have HK := hide ku
        clear ku
        simp only []
        go_wp2
        go_ret
        exact ⟨unhide HK, .inl rfl⟩
      · have HK := hide ku
        have HS := hide hS
        clear ku hS
        simp only []
        go_wp2
        go_ret
        exact ⟨unhide HK, .inr ⟨k, rfl, .inr (.inr (unhide HS)), fun h => by rw [unhide HY] at h; cases h⟩⟩
    have g55 : (y == 55) = false := by simp [hv]
    clear hv
    by_cases hv : y = 56
    · subst hv
      have HY := hide hy
      have C := hide (num29 b o n c p t u (unhide H) (unhide HN) hl hpn)
      clear hy
      go_enter Try.func13, Try.ntmps13
      go_wp2_with fail
      refine (unhide C).mono ?_
      clear C
      rintro e u' ⟨ku, rfl | ⟨k, rfl, hS⟩⟩
      · have HK := hide ku
        clear ku
        simp only []
        go_wp2
        go_ret
        exact ⟨unhide HK, .inl rfl⟩
      · have HK := hide ku
        have HS := hide hS
        clear ku hS
        simp only []
        go_wp2
        go_ret
        exact ⟨unhide HK, .inr ⟨k, rfl, .inr (.inr (unhide HS)), fun h => by rw [unhide HY] at h; cases h⟩⟩
    have g56 : (y == 56) = false := by simp [hv]
    clear hv
    by_cases hv : y = 57
    · subst hv
      have HY := hide hy
      have C := hide (num29 b o n c p t u (unhide H) (unhide HN) hl hpn)
      clear hy
      go_enter Try.func13, Try.ntmps13
      go_wp2_with fail
      refine (unhide C).mono ?_
      clear C
      rintro e u' ⟨ku, rfl | ⟨k, rfl, hS⟩⟩
      · have HK := hide ku
        clear ku
        simp only []
        go_wp2
        go_ret
        exact ⟨unhide HK, .inl rfl⟩
      · have HK := hide ku
        have HS := hide hS
        clear ku hS
        simp only []
        go_wp2
        go_ret
        exact ⟨unhide HK, .inr ⟨k, rfl, .inr (.inr (unhide HS)), fun h => by rw [unhide HY] at h; cases h⟩⟩
    have g57 : (y == 57) = false := by simp [hv]
    clear hv
    clear hy
    go_enter Try.func13, Try.ntmps13
    go_wp2
    all_goals first
      | (go_ret; exact ⟨Kp.refl _ _, .inl rfl⟩)
      | (exfalso; omega)
end Go.Proofs.Qxb6601492a
