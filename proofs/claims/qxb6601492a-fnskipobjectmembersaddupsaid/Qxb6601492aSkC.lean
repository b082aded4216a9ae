/-
  SkipObject: zzStringEnd (25).
-/
import Derived.Test.Qxb6601492aSkB
set_option linter.unusedSimpArgs false
set_option linter.unusedVariables false
namespace Go.Proofs.Qxb6601492a
open Go.RowKit

/-- What zzStringEnd tells. -/
def StrO (w : World) (t : List Int) (p : Nat) (e : Ending) (w' : World) : Prop := w' = w ∧ (e = .returned (.int .i64 (-1)) ∨ ∃ k : Nat, e = .returned (.int .i64 k) ∧ STR t p k)

theorem ss_four {t : List Int} {i f : Nat} (h : t[i]? = some 92) (h4 : ∀ j, 2 ≤ j → j < 6 → ∃ c, t[i + j]? = some c ∧ c ≠ 34 ∧ c ≠ 92) : ss t (f + 5) i = ss t f (i + 6) := by
  obtain ⟨c2, a2, b2, d2⟩ := h4 2 (by omega) (by omega)
  obtain ⟨c3, a3, b3, d3⟩ := h4 3 (by omega) (by omega)
  obtain ⟨c4, a4, b4, d4⟩ := h4 4 (by omega) (by omega)
  obtain ⟨c5, a5, b5, d5⟩ := h4 5 (by omega) (by omega)
  rw [ss_esc h, ss_char (i := i + 2) a2 b2 d2, ss_char (i := i + 2 + 1) a3 b3 d3, ss_char (i := i + 2 + 1 + 1) a4 b4 d4, ss_char (i := i + 2 + 1 + 1 + 1) a5 b5 d5]

set_option maxRecDepth 100000 in
set_option maxHeartbeats 2000000 in
theorem str25 (b o n c p : Nat) (t : List Int) (w : World) (hT : Txt w b o t) (hn : t.length = n) (hl : n ≤ 65536) (hp : p < n) :
    Calls Try.prog 25 #[.slice (some ⟨b, o, none⟩) n c, .int .i64 p] w (StrO w t p) := by
  have H := hide hT.2
  have HN := hide hn
  clear hT hn
  obtain ⟨x0, hx0⟩ := getElem?_lt_some t p (by have := unhide HN; omega)
  have c0 := (unhide H) p x0 hx0
  have i0 : ¬ (p : Int) < 0 := by omega
  have i1 : (p : Int) < (n : Int) := by omega
  by_cases hq : x0 = 34
  case neg =>
    have hb : (x0 != 34) = true := by simp [hq]
    clear hx0 hq
    go_enter Try.func25, Try.ntmps25
    go_wp2
    all_goals first
      | (go_ret; exact ⟨rfl, .inl rfl⟩)
      | (exfalso; simp_all)
  subst hq
  have HX := hide hx0
  clear hx0
  go_enter Try.func25, Try.ntmps25
  go_wp2
  go_loop [5] (fun x => ∃ k : Nat, k ≤ n ∧ p < k ∧ x = .int .i64 k ∧ ∀ f m, ss t f k = some m → ∃ f', ss t f' (p + 1) = some m) (fun x => n - (intOf x).toNat)
  case atStart => exact ⟨p + 1, by omega, by omega, by go_num, fun f m h => ⟨f, h⟩⟩
  case round =>
    obtain ⟨k, hk, hpk, rfl, hrl⟩ := hrel
    have HR := hide hrl
    clear hrl
    by_cases hlt : k < n
    case neg =>
      go_wp2
      go_ret
      exact ⟨rfl, .inl rfl⟩
    obtain ⟨y, hy⟩ := getElem?_lt_some t k (by have := unhide HN; omega)
    have c1 := (unhide H) k y hy
    have j1 : (k : Int) < (n : Int) := by omega
    by_cases h34 : y = 34
    · subst h34
      have F := hide ((unhide HR) 1 (k + 1) (ss_quote hy 0))
      clear hy HR
      go_wp2
      go_ret
      exact ⟨rfl, .inr ⟨k + 1, by go_num, unhide HX, unhide F⟩⟩
    have g34 : (y == 34) = false := by simp [h34]
    by_cases h32 : y < 32
    · go_wp2
      go_ret
      exact ⟨rfl, .inl rfl⟩
    by_cases h92 : y = 92
    case neg =>
      have g92 : (y == 92) = false := by simp [h92]
      have N1 : Hid (∀ f m, ss t f (k + 1) = some m → ∃ f', ss t f' (p + 1) = some m) := fun f m h => (unhide HR) (f + 1) m (by rw [ss_char hy h34 h92]; exact h)
      clear hy HR
      go_wp2
      go_round
      case rel => exact ⟨k + 1, by omega, by omega, by go_num, unhide N1⟩
      case measure => simp [intOf]; omega
    subst h92
    have N2 : Hid (∀ f m, ss t f (k + 2) = some m → ∃ f', ss t f' (p + 1) = some m) := fun f m h => (unhide HR) (f + 1) m (by rw [ss_esc hy]; exact h)
    have HY := hide hy
    clear hy
    by_cases hk1 : k + 1 < n
    case neg =>
      have j2 : ¬ (k : Int) + 1 < (n : Int) := by omega
      go_wp2
      all_goals first
        | (go_ret; exact ⟨rfl, .inl rfl⟩)
        | (exfalso; omega)
    obtain ⟨d, hd0⟩ := getElem?_lt_some t (k + 1) (by have := unhide HN; omega)
    have c2 : w.cell? ⟨b, o + (k + 1), none⟩ = some (.int .u8 d) := (unhide H) (k + 1) d hd0
    have j2 : (k : Int) + 1 < (n : Int) := by omega
    clear hd0
    by_cases hd : d = 34
    · subst hd
      go_wp2
      go_round
      case rel => exact ⟨k + 2, by omega, by omega, by go_num, unhide N2⟩
      case measure => simp [intOf]; omega
    have g34d : (d == 34) = false := by simp [hd]
    clear hd
    by_cases hd : d = 92
    · subst hd
      go_wp2
      go_round
      case rel => exact ⟨k + 2, by omega, by omega, by go_num, unhide N2⟩
      case measure => simp [intOf]; omega
    have g92d : (d == 92) = false := by simp [hd]
    clear hd
    by_cases hd : d = 47
    · subst hd
      go_wp2
      go_round
      case rel => exact ⟨k + 2, by omega, by omega, by go_num, unhide N2⟩
      case measure => simp [intOf]; omega
    have g47d : (d == 47) = false := by simp [hd]
    clear hd
    by_cases hd : d = 98
    · subst hd
      go_wp2
      go_round
      case rel => exact ⟨k + 2, by omega, by omega, by go_num, unhide N2⟩
      case measure => simp [intOf]; omega
    have g98d : (d == 98) = false := by simp [hd]
    clear hd
    by_cases hd : d = 102
    · subst hd
      go_wp2
      go_round
      case rel => exact ⟨k + 2, by omega, by omega, by go_num, unhide N2⟩
      case measure => simp [intOf]; omega
    have g102d : (d == 102) = false := by simp [hd]
    clear hd
    by_cases hd : d = 110
    · subst hd
      go_wp2
      go_round
      case rel => exact ⟨k + 2, by omega, by omega, by go_num, unhide N2⟩
      case measure => simp [intOf]; omega
    have g110d : (d == 110) = false := by simp [hd]
    clear hd
    by_cases hd : d = 114
    · subst hd
      go_wp2
      go_round
      case rel => exact ⟨k + 2, by omega, by omega, by go_num, unhide N2⟩
      case measure => simp [intOf]; omega
    have g114d : (d == 114) = false := by simp [hd]
    clear hd
    by_cases hd : d = 116
    · subst hd
      go_wp2
      go_round
      case rel => exact ⟨k + 2, by omega, by omega, by go_num, unhide N2⟩
      case measure => simp [intOf]; omega
    have g116d : (d == 116) = false := by simp [hd]
    clear hd
    by_cases hd : d = 117
    case neg =>
      have gd : (d == 117) = false := by simp [hd]
      go_wp2
      all_goals first
        | (go_ret; exact ⟨rfl, .inl rfl⟩)
        | (exfalso; omega)
    subst hd
    by_cases h6 : k + 6 ≤ n
    case neg =>
      have j3 : (n : Int) - (k : Int) < 6 := by omega
      go_wp2
      all_goals first
        | (go_ret; exact ⟨rfl, .inl rfl⟩)
        | (exfalso; omega)
    have j3 : ¬ (n : Int) - (k : Int) < 6 := by omega
    go_wp2
    go_loop [7] (fun x => ∃ m : Nat, 2 ≤ m ∧ m ≤ 6 ∧ x = .int .i64 m ∧ ∀ j, 2 ≤ j → j < m → ∃ c, t[k + j]? = some c ∧ c ≠ 34 ∧ c ≠ 92) (fun x => 6 - (intOf x).toNat)
    case atStart => exact ⟨2, by omega, by omega, rfl, fun j h1 h2 => by omega⟩
    case round =>
      obtain ⟨m, hm2, hm6, rfl, hh⟩ := hrel
      have HH := hide hh
      clear hh
      by_cases hm : m < 6
      · obtain ⟨z, hz⟩ := getElem?_lt_some t (k + m) (by have := unhide HN; omega)
        have c3 : w.cell? ⟨b, o + (k + m), none⟩ = some (.int .u8 z) := (unhide H) (k + m) z hz
        have j4 : (m : Int) < 6 := by omega
        have j5 : (k : Int) + (m : Int) < (n : Int) := by omega
        have HZ := hide hz
        have C := hide (hex36 z w)
        clear hz
        go_wp2_with fail
        refine (unhide C).mono ?_
        clear C
        rintro e w' ⟨hw, bb, rfl, hbb⟩
        have hw := hw.symm
        subst hw
        simp only []
        cases bb
        · clear hbb
          go_wp2
          go_ret
          exact ⟨rfl, .inl rfl⟩
        · have HB := hide (hbb rfl)
          clear hbb
          go_wp2
          go_round
          case rel =>
            refine ⟨m + 1, by omega, by omega, by go_num, fun j h1 h2 => ?_⟩
            by_cases hjm : j = m
            · subst hjm; exact ⟨z, unhide HZ, unhide HB⟩
            · exact (unhide HH) j h1 (by omega)
          case measure => simp [intOf]; omega
      · obtain rfl : m = 6 := by omega
        have N6 : Hid (∀ f m, ss t f (k + 6) = some m → ∃ f', ss t f' (p + 1) = some m) := fun f m h => (unhide HR) (f + 5) m (by rw [ss_four (unhide HY) (unhide HH)]; exact h)
        go_wp2
        go_round
        case rel => exact ⟨k + 6, by omega, by omega, by go_num, unhide N6⟩
        case measure => simp [intOf]; omega
end Go.Proofs.Qxb6601492a
