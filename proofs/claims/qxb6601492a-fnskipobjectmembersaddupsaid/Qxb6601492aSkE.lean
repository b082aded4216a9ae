/-
  SkipObject: zzNumberEnd (29).
-/
import Derived.Test.Qxb6601492aSkD
set_option linter.unusedSimpArgs false
set_option linter.unusedVariables false
namespace Go.Proofs.Qxb6601492a
open Go.RowKit

/-- An 'if' of a function: its test's region, the rest of it. -/
def ifAt (n : Nat) : Code → Option (Code × Code)
  | .seq (.region m o d) b => if m == n then some (.region m o d, b) else ifAt n b
  | .seq a b => match ifAt n a with
    | some c => some c
    | none => ifAt n b
  | .block _ c => ifAt n c
  | .loop c => ifAt n c
  | .scope c => ifAt n c
  | .cond _ a b => match ifAt n a with
    | some c => some c
    | none => ifAt n b
  | _ => none
def ifHead (n : Nat) (f : Func) : Code := ((f.body.bind (ifAt n)).getD (.skip, .skip)).1
def ifRest (n : Nat) (f : Func) : Code := ((f.body.bind (ifAt n)).getD (.skip, .skip)).2

theorem dg_plain {y : Int} (h : dg y = true) : plain y = true := by
  simp [dg] at h
  have h1 : ¬ y = 32 := by omega
  have h2 : ¬ y = 9 := by omega
  have h3 : ¬ y = 13 := by omega
  have h4 : ¬ y = 10 := by omega
  have h5 : ¬ y = 44 := by omega
  have h6 : ¬ y = 125 := by omega
  have h7 : ¬ y = 93 := by omega
  have h8 : ¬ y = 34 := by omega
  have h9 : ¬ y = 123 := by omega
  have h10 : ¬ y = 91 := by omega
  simp [plain, ender, isW, h1, h2, h3, h4, h5, h6, h7, h8, h9, h10]

set_option maxRecDepth 1000000 in
set_option maxHeartbeats 4000000 in
theorem num21 (b o n c p k : Nat) (t : List Int) (w : World) (u1 u2 u3 u4 u6 u7 u8 u9 u10 u11 u12 u13 u14 u15 u16 u17 u18 u19 u20 u21 u22 u23 u24 u25 u26 u27 u28 u29 u30 u31 u32 u33 u34 u35 u36 u37 u38 u39 u40 u41 u42 u43 u44 u45 u46 u47 u48 u49 u50 u51 u52 u53 u54 u55 u56 u57 u58 u59 u60 u61 u62 u63 u64 u65 u66 u67 u68 u69 u70 u71 u72 u73 u74 u75 u76 u77 u78 u79 u80 u81 u82 u83 u84 u85 u86 u87 u88 u89 u90 u91 u92 u93 u94 u95 u96 u97 u98 u99 u100 u101 u102 u103 u104 u105 u106 u107 u108 u109 u110 u111 u112 u113 u114 u115 u116 u117 u118 u119 u120 u121 u122 u123 u124 u125 u126 u127 u128 u129 u130 u131 u132 u133 u134 u135 u136 u137 u138 u139 u140 u141 u142 u143 u144 u145 u146 u147 : Value) (H : Hid (∀ i x, t[i]? = some x → w.cell? ⟨b, o + i, none⟩ = some (.int .u8 x))) (HN : Hid (t.length = n)) (hl : n ≤ 65536) (hpk : p < k) (hk : k ≤ n) (PK : Hid (PC t p k))
    (K2 : Act → World → Prop) (hK2 : ∀ a w', Code.wp Try.prog (restOf2 21 Try.f29) (bodyPost Try.prog Try.f29 (ScO w t p)) a w' → K2 a w')
    (K1 : Act → World → Prop) (hK1 : ∀ a w', Code.wp Try.prog (ifRest 21 Try.f29) (Exit.then K2 (bodyPost Try.prog Try.f29 (ScO w t p))) a w' → K1 a w') :
    Code.wp Try.prog (ifHead 21 Try.f29) (Exit.then K1 (Exit.then K2 (bodyPost Try.prog Try.f29 (ScO w t p)))) ⟨#[.slice (some ⟨b, o, none⟩) n c, u1, u2, u3, u4, .int .i64 k, u6, u7, u8, u9, u10, u11, u12, u13, u14, u15, u16, u17, u18, u19, u20, u21, u22, u23, u24, u25, u26, u27, u28, u29, u30, u31, u32, u33, u34, u35, u36, u37, u38, u39, u40, u41, u42, u43, u44, u45, u46, u47, u48, u49, u50, u51, u52, u53, u54, u55, u56, u57, u58, u59, u60, u61, u62, u63, u64, u65, u66, u67, u68, u69, u70, u71, u72, u73, u74, u75, u76, u77, u78, u79, u80, u81, u82, u83, u84, u85, u86, u87, u88, u89, u90, u91, u92, u93, u94, u95, u96, u97, u98, u99, u100, u101, u102, u103, u104, u105, u106, u107, u108, u109, u110, u111, u112, u113, u114, u115, u116, u117, u118, u119, u120, u121, u122, u123, u124, u125, u126, u127, u128, u129, u130, u131, u132, u133, u134, u135, u136, u137, u138, u139, u140, u141, u142, u143, u144, u145, u146, u147], []⟩ w := by
  conv at hK2 => enter [a, w', 1, 2]; whnf
  conv at hK1 => enter [a, w', 1, 2]; whnf
  conv => arg 2; whnf
  by_cases hkn : k < n
  · obtain ⟨y, hy⟩ := getElem?_lt_some t k (by have := unhide HN; omega)
    have c1 := (unhide H) k y hy
    have j1 : (k : Int) < (n : Int) := by omega
    have HY := hide hy
    clear hy
    by_cases he : y = 101
    · subst he
      have P1 := hide ((unhide PK).snoc (unhide HY) rfl)
      have kk : k + 1 ≤ n := by omega
      by_cases h1 : k + 1 < n
      · obtain ⟨y2, hy2⟩ := getElem?_lt_some t (k + 1) (by have := unhide HN; omega)
        have c2 : w.cell? ⟨b, o + (k + 1), none⟩ = some (.int .u8 y2) := (unhide H) (k + 1) y2 hy2
        have j2 : (k : Int) + 1 < (n : Int) := by omega
        by_cases hs : y2 = 43
        · subst hs
          have P2 := hide ((unhide P1).snoc hy2 rfl)
          clear hy2
          go_wp2
          go_loop [5] (fun x => ∃ m : Nat, k + 1 + 1 ≤ m ∧ m ≤ n ∧ x = .int .i64 m ∧ PC t p m) (fun x => n - (intOf x).toNat)
          case atStart => exact ⟨k + 1 + 1, Nat.le_refl _, by omega, by go_num, unhide P2⟩
          case round =>
            obtain ⟨m, hm0, hmn, rfl, hpcm⟩ := hrel
            have PCM := hide hpcm
            clear hpcm
            by_cases hml : m < n
            · obtain ⟨z, hz⟩ := getElem?_lt_some t m (by have := unhide HN; omega)
              have cz := (unhide H) m z hz
              have jz : (m : Int) < (n : Int) := by omega
              have C := hide (dig37 z w)
              cases hdz : dg z
              · rw [hdz] at C
                clear hdz hz
                go_wp2_with fail
                refine (unhide C).mono ?_
                clear C
                rintro e w' ⟨hw, rfl⟩
                have hw := hw.symm
                subst hw
                simp only []
                by_cases hmd : m = k + 1 + 1
                · subst hmd
                  go_wp2
                  all_goals first
                    | (go_ret; exact ⟨Kp.refl _ _, .inl rfl⟩)
                    | (exfalso; omega)
                · have gmd : ((m : Int) == ((k + 1 + 1 : Nat) : Int)) = false := by simp; omega
                  go_wp2
                  all_goals first
                    | (go_ret; exact ⟨Kp.refl _ _, .inr ⟨m, rfl, by omega, by have := unhide HN; omega, unhide PCM⟩⟩)
                    | (exfalso; omega)
              · have PN := hide ((unhide PCM).snoc hz (dg_plain hdz))
                rw [hdz] at C
                clear hdz hz
                go_wp2_with fail
                refine (unhide C).mono ?_
                clear C
                rintro e w' ⟨hw, rfl⟩
                have hw := hw.symm
                subst hw
                simp only []
                go_wp2
                go_round
                case rel => exact ⟨m + 1, by omega, by omega, by go_num, unhide PN⟩
                case measure => simp [intOf]; omega
            · have jz : ¬ (m : Int) < (n : Int) := by omega
              by_cases hmd : m = k + 1 + 1
              · subst hmd
                go_wp2
                all_goals first
                  | (go_ret; exact ⟨Kp.refl _ _, .inl rfl⟩)
                  | (exfalso; omega)
              · have gmd : ((m : Int) == ((k + 1 + 1 : Nat) : Int)) = false := by simp; omega
                go_wp2
                all_goals first
                  | (go_ret; exact ⟨Kp.refl _ _, .inr ⟨m, rfl, by omega, by have := unhide HN; omega, unhide PCM⟩⟩)
                  | (exfalso; omega)
        have gs : (y2 == 43) = false := by simp [hs]
        by_cases hs' : y2 = 45
        · subst hs'
          have P2 := hide ((unhide P1).snoc hy2 rfl)
          clear hy2
          go_wp2
          go_loop [5] (fun x => ∃ m : Nat, k + 1 + 1 ≤ m ∧ m ≤ n ∧ x = .int .i64 m ∧ PC t p m) (fun x => n - (intOf x).toNat)
          case atStart => exact ⟨k + 1 + 1, Nat.le_refl _, by omega, by go_num, unhide P2⟩
          case round =>
            obtain ⟨m, hm0, hmn, rfl, hpcm⟩ := hrel
            have PCM := hide hpcm
            clear hpcm
            by_cases hml : m < n
            · obtain ⟨z, hz⟩ := getElem?_lt_some t m (by have := unhide HN; omega)
              have cz := (unhide H) m z hz
              have jz : (m : Int) < (n : Int) := by omega
              have C := hide (dig37 z w)
              cases hdz : dg z
              · rw [hdz] at C
                clear hdz hz
                go_wp2_with fail
                refine (unhide C).mono ?_
                clear C
                rintro e w' ⟨hw, rfl⟩
                have hw := hw.symm
                subst hw
                simp only []
                by_cases hmd : m = k + 1 + 1
                · subst hmd
                  go_wp2
                  all_goals first
                    | (go_ret; exact ⟨Kp.refl _ _, .inl rfl⟩)
                    | (exfalso; omega)
                · have gmd : ((m : Int) == ((k + 1 + 1 : Nat) : Int)) = false := by simp; omega
                  go_wp2
                  all_goals first
                    | (go_ret; exact ⟨Kp.refl _ _, .inr ⟨m, rfl, by omega, by have := unhide HN; omega, unhide PCM⟩⟩)
                    | (exfalso; omega)
              · have PN := hide ((unhide PCM).snoc hz (dg_plain hdz))
                rw [hdz] at C
                clear hdz hz
                go_wp2_with fail
                refine (unhide C).mono ?_
                clear C
                rintro e w' ⟨hw, rfl⟩
                have hw := hw.symm
                subst hw
                simp only []
                go_wp2
                go_round
                case rel => exact ⟨m + 1, by omega, by omega, by go_num, unhide PN⟩
                case measure => simp [intOf]; omega
            · have jz : ¬ (m : Int) < (n : Int) := by omega
              by_cases hmd : m = k + 1 + 1
              · subst hmd
                go_wp2
                all_goals first
                  | (go_ret; exact ⟨Kp.refl _ _, .inl rfl⟩)
                  | (exfalso; omega)
              · have gmd : ((m : Int) == ((k + 1 + 1 : Nat) : Int)) = false := by simp; omega
                go_wp2
                all_goals first
                  | (go_ret; exact ⟨Kp.refl _ _, .inr ⟨m, rfl, by omega, by have := unhide HN; omega, unhide PCM⟩⟩)
                  | (exfalso; omega)
        have gs' : (y2 == 45) = false := by simp [hs']
        clear hy2
        go_wp2
        go_loop [5] (fun x => ∃ m : Nat, k + 1 ≤ m ∧ m ≤ n ∧ x = .int .i64 m ∧ PC t p m) (fun x => n - (intOf x).toNat)
        case atStart => exact ⟨k + 1, Nat.le_refl _, by omega, by go_num, unhide P1⟩
        case round =>
          obtain ⟨m, hm0, hmn, rfl, hpcm⟩ := hrel
          have PCM := hide hpcm
          clear hpcm
          by_cases hml : m < n
          · obtain ⟨z, hz⟩ := getElem?_lt_some t m (by have := unhide HN; omega)
            have cz := (unhide H) m z hz
            have jz : (m : Int) < (n : Int) := by omega
            have C := hide (dig37 z w)
            cases hdz : dg z
            · rw [hdz] at C
              clear hdz hz
              go_wp2_with fail
              refine (unhide C).mono ?_
              clear C
              rintro e w' ⟨hw, rfl⟩
              have hw := hw.symm
              subst hw
              simp only []
              by_cases hmd : m = k + 1
              · subst hmd
                go_wp2
                all_goals first
                  | (go_ret; exact ⟨Kp.refl _ _, .inl rfl⟩)
                  | (exfalso; omega)
              · have gmd : ((m : Int) == ((k + 1 : Nat) : Int)) = false := by simp; omega
                go_wp2
                all_goals first
                  | (go_ret; exact ⟨Kp.refl _ _, .inr ⟨m, rfl, by omega, by have := unhide HN; omega, unhide PCM⟩⟩)
                  | (exfalso; omega)
            · have PN := hide ((unhide PCM).snoc hz (dg_plain hdz))
              rw [hdz] at C
              clear hdz hz
              go_wp2_with fail
              refine (unhide C).mono ?_
              clear C
              rintro e w' ⟨hw, rfl⟩
              have hw := hw.symm
              subst hw
              simp only []
              go_wp2
              go_round
              case rel => exact ⟨m + 1, by omega, by omega, by go_num, unhide PN⟩
              case measure => simp [intOf]; omega
          · have jz : ¬ (m : Int) < (n : Int) := by omega
            by_cases hmd : m = k + 1
            · subst hmd
              go_wp2
              all_goals first
                | (go_ret; exact ⟨Kp.refl _ _, .inl rfl⟩)
                | (exfalso; omega)
            · have gmd : ((m : Int) == ((k + 1 : Nat) : Int)) = false := by simp; omega
              go_wp2
              all_goals first
                | (go_ret; exact ⟨Kp.refl _ _, .inr ⟨m, rfl, by omega, by have := unhide HN; omega, unhide PCM⟩⟩)
                | (exfalso; omega)
      · have j2 : ¬ (k : Int) + 1 < (n : Int) := by omega
        go_wp2
        go_loop [5] (fun x => ∃ m : Nat, k + 1 ≤ m ∧ m ≤ n ∧ x = .int .i64 m ∧ PC t p m) (fun x => n - (intOf x).toNat)
        case atStart => exact ⟨k + 1, Nat.le_refl _, by omega, by go_num, unhide P1⟩
        case round =>
          obtain ⟨m, hm0, hmn, rfl, hpcm⟩ := hrel
          have PCM := hide hpcm
          clear hpcm
          by_cases hml : m < n
          · obtain ⟨z, hz⟩ := getElem?_lt_some t m (by have := unhide HN; omega)
            have cz := (unhide H) m z hz
            have jz : (m : Int) < (n : Int) := by omega
            have C := hide (dig37 z w)
            cases hdz : dg z
            · rw [hdz] at C
              clear hdz hz
              go_wp2_with fail
              refine (unhide C).mono ?_
              clear C
              rintro e w' ⟨hw, rfl⟩
              have hw := hw.symm
              subst hw
              simp only []
              by_cases hmd : m = k + 1
              · subst hmd
                go_wp2
                all_goals first
                  | (go_ret; exact ⟨Kp.refl _ _, .inl rfl⟩)
                  | (exfalso; omega)
              · have gmd : ((m : Int) == ((k + 1 : Nat) : Int)) = false := by simp; omega
                go_wp2
                all_goals first
                  | (go_ret; exact ⟨Kp.refl _ _, .inr ⟨m, rfl, by omega, by have := unhide HN; omega, unhide PCM⟩⟩)
                  | (exfalso; omega)
            · have PN := hide ((unhide PCM).snoc hz (dg_plain hdz))
              rw [hdz] at C
              clear hdz hz
              go_wp2_with fail
              refine (unhide C).mono ?_
              clear C
              rintro e w' ⟨hw, rfl⟩
              have hw := hw.symm
              subst hw
              simp only []
              go_wp2
              go_round
              case rel => exact ⟨m + 1, by omega, by omega, by go_num, unhide PN⟩
              case measure => simp [intOf]; omega
          · have jz : ¬ (m : Int) < (n : Int) := by omega
            by_cases hmd : m = k + 1
            · subst hmd
              go_wp2
              all_goals first
                | (go_ret; exact ⟨Kp.refl _ _, .inl rfl⟩)
                | (exfalso; omega)
            · have gmd : ((m : Int) == ((k + 1 : Nat) : Int)) = false := by simp; omega
              go_wp2
              all_goals first
                | (go_ret; exact ⟨Kp.refl _ _, .inr ⟨m, rfl, by omega, by have := unhide HN; omega, unhide PCM⟩⟩)
                | (exfalso; omega)
    have ge : (y == 101) = false := by simp [he]
    clear he
    by_cases he : y = 69
    · subst he
      have P1 := hide ((unhide PK).snoc (unhide HY) rfl)
      have kk : k + 1 ≤ n := by omega
      by_cases h1 : k + 1 < n
      · obtain ⟨y2, hy2⟩ := getElem?_lt_some t (k + 1) (by have := unhide HN; omega)
        have c2 : w.cell? ⟨b, o + (k + 1), none⟩ = some (.int .u8 y2) := (unhide H) (k + 1) y2 hy2
        have j2 : (k : Int) + 1 < (n : Int) := by omega
        by_cases hs : y2 = 43
        · subst hs
          have P2 := hide ((unhide P1).snoc hy2 rfl)
          clear hy2
          go_wp2
          go_loop [5] (fun x => ∃ m : Nat, k + 1 + 1 ≤ m ∧ m ≤ n ∧ x = .int .i64 m ∧ PC t p m) (fun x => n - (intOf x).toNat)
          case atStart => exact ⟨k + 1 + 1, Nat.le_refl _, by omega, by go_num, unhide P2⟩
          case round =>
            obtain ⟨m, hm0, hmn, rfl, hpcm⟩ := hrel
            have PCM := hide hpcm
            clear hpcm
            by_cases hml : m < n
            · obtain ⟨z, hz⟩ := getElem?_lt_some t m (by have := unhide HN; omega)
              have cz := (unhide H) m z hz
              have jz : (m : Int) < (n : Int) := by omega
              have C := hide (dig37 z w)
              cases hdz : dg z
              · rw [hdz] at C
                clear hdz hz
                go_wp2_with fail
                refine (unhide C).mono ?_
                clear C
                rintro e w' ⟨hw, rfl⟩
                have hw := hw.symm
                subst hw
                simp only []
                by_cases hmd : m = k + 1 + 1
                · subst hmd
                  go_wp2
                  all_goals first
                    | (go_ret; exact ⟨Kp.refl _ _, .inl rfl⟩)
                    | (exfalso; omega)
                · have gmd : ((m : Int) == ((k + 1 + 1 : Nat) : Int)) = false := by simp; omega
                  go_wp2
                  all_goals first
                    | (go_ret; exact ⟨Kp.refl _ _, .inr ⟨m, rfl, by omega, by have := unhide HN; omega, unhide PCM⟩⟩)
                    | (exfalso; omega)
              · have PN := hide ((unhide PCM).snoc hz (dg_plain hdz))
                rw [hdz] at C
                clear hdz hz
                go_wp2_with fail
                refine (unhide C).mono ?_
                clear C
                rintro e w' ⟨hw, rfl⟩
                have hw := hw.symm
                subst hw
                simp only []
                go_wp2
                go_round
                case rel => exact ⟨m + 1, by omega, by omega, by go_num, unhide PN⟩
                case measure => simp [intOf]; omega
            · have jz : ¬ (m : Int) < (n : Int) := by omega
              by_cases hmd : m = k + 1 + 1
              · subst hmd
                go_wp2
                all_goals first
                  | (go_ret; exact ⟨Kp.refl _ _, .inl rfl⟩)
                  | (exfalso; omega)
              · have gmd : ((m : Int) == ((k + 1 + 1 : Nat) : Int)) = false := by simp; omega
                go_wp2
                all_goals first
                  | (go_ret; exact ⟨Kp.refl _ _, .inr ⟨m, rfl, by omega, by have := unhide HN; omega, unhide PCM⟩⟩)
                  | (exfalso; omega)
        have gs : (y2 == 43) = false := by simp [hs]
        by_cases hs' : y2 = 45
        · subst hs'
          have P2 := hide ((unhide P1).snoc hy2 rfl)
          clear hy2
          go_wp2
          go_loop [5] (fun x => ∃ m : Nat, k + 1 + 1 ≤ m ∧ m ≤ n ∧ x = .int .i64 m ∧ PC t p m) (fun x => n - (intOf x).toNat)
          case atStart => exact ⟨k + 1 + 1, Nat.le_refl _, by omega, by go_num, unhide P2⟩
          case round =>
            obtain ⟨m, hm0, hmn, rfl, hpcm⟩ := hrel
            have PCM := hide hpcm
            clear hpcm
            by_cases hml : m < n
            · obtain ⟨z, hz⟩ := getElem?_lt_some t m (by have := unhide HN; omega)
              have cz := (unhide H) m z hz
              have jz : (m : Int) < (n : Int) := by omega
              have C := hide (dig37 z w)
              cases hdz : dg z
              · rw [hdz] at C
                clear hdz hz
                go_wp2_with fail
                refine (unhide C).mono ?_
                clear C
                rintro e w' ⟨hw, rfl⟩
                have hw := hw.symm
                subst hw
                simp only []
                by_cases hmd : m = k + 1 + 1
                · subst hmd
                  go_wp2
                  all_goals first
                    | (go_ret; exact ⟨Kp.refl _ _, .inl rfl⟩)
                    | (exfalso; omega)
                · have gmd : ((m : Int) == ((k + 1 + 1 : Nat) : Int)) = false := by simp; omega
                  go_wp2
                  all_goals first
                    | (go_ret; exact ⟨Kp.refl _ _, .inr ⟨m, rfl, by omega, by have := unhide HN; omega, unhide PCM⟩⟩)
                    | (exfalso; omega)
              · have PN := hide ((unhide PCM).snoc hz (dg_plain hdz))
                rw [hdz] at C
                clear hdz hz
                go_wp2_with fail
                refine (unhide C).mono ?_
                clear C
                rintro e w' ⟨hw, rfl⟩
                have hw := hw.symm
                subst hw
                simp only []
                go_wp2
                go_round
                case rel => exact ⟨m + 1, by omega, by omega, by go_num, unhide PN⟩
                case measure => simp [intOf]; omega
            · have jz : ¬ (m : Int) < (n : Int) := by omega
              by_cases hmd : m = k + 1 + 1
              · subst hmd
                go_wp2
                all_goals first
                  | (go_ret; exact ⟨Kp.refl _ _, .inl rfl⟩)
                  | (exfalso; omega)
              · have gmd : ((m : Int) == ((k + 1 + 1 : Nat) : Int)) = false := by simp; omega
                go_wp2
                all_goals first
                  | (go_ret; exact ⟨Kp.refl _ _, .inr ⟨m, rfl, by omega, by have := unhide HN; omega, unhide PCM⟩⟩)
                  | (exfalso; omega)
        have gs' : (y2 == 45) = false := by simp [hs']
        clear hy2
        go_wp2
        go_loop [5] (fun x => ∃ m : Nat, k + 1 ≤ m ∧ m ≤ n ∧ x = .int .i64 m ∧ PC t p m) (fun x => n - (intOf x).toNat)
        case atStart => exact ⟨k + 1, Nat.le_refl _, by omega, by go_num, unhide P1⟩
        case round =>
          obtain ⟨m, hm0, hmn, rfl, hpcm⟩ := hrel
          have PCM := hide hpcm
          clear hpcm
          by_cases hml : m < n
          · obtain ⟨z, hz⟩ := getElem?_lt_some t m (by have := unhide HN; omega)
            have cz := (unhide H) m z hz
            have jz : (m : Int) < (n : Int) := by omega
            have C := hide (dig37 z w)
            cases hdz : dg z
            · rw [hdz] at C
              clear hdz hz
              go_wp2_with fail
              refine (unhide C).mono ?_
              clear C
              rintro e w' ⟨hw, rfl⟩
              have hw := hw.symm
              subst hw
              simp only []
              by_cases hmd : m = k + 1
              · subst hmd
                go_wp2
                all_goals first
                  | (go_ret; exact ⟨Kp.refl _ _, .inl rfl⟩)
                  | (exfalso; omega)
              · have gmd : ((m : Int) == ((k + 1 : Nat) : Int)) = false := by simp; omega
                go_wp2
                all_goals first
                  | (go_ret; exact ⟨Kp.refl _ _, .inr ⟨m, rfl, by omega, by have := unhide HN; omega, unhide PCM⟩⟩)
                  | (exfalso; omega)
            · have PN := hide ((unhide PCM).snoc hz (dg_plain hdz))
              rw [hdz] at C
              clear hdz hz
              go_wp2_with fail
              refine (unhide C).mono ?_
              clear C
              rintro e w' ⟨hw, rfl⟩
              have hw := hw.symm
              subst hw
              simp only []
              go_wp2
              go_round
              case rel => exact ⟨m + 1, by omega, by omega, by go_num, unhide PN⟩
              case measure => simp [intOf]; omega
          · have jz : ¬ (m : Int) < (n : Int) := by omega
            by_cases hmd : m = k + 1
            · subst hmd
              go_wp2
              all_goals first
                | (go_ret; exact ⟨Kp.refl _ _, .inl rfl⟩)
                | (exfalso; omega)
            · have gmd : ((m : Int) == ((k + 1 : Nat) : Int)) = false := by simp; omega
              go_wp2
              all_goals first
                | (go_ret; exact ⟨Kp.refl _ _, .inr ⟨m, rfl, by omega, by have := unhide HN; omega, unhide PCM⟩⟩)
                | (exfalso; omega)
      · have j2 : ¬ (k : Int) + 1 < (n : Int) := by omega
        go_wp2
        go_loop [5] (fun x => ∃ m : Nat, k + 1 ≤ m ∧ m ≤ n ∧ x = .int .i64 m ∧ PC t p m) (fun x => n - (intOf x).toNat)
        case atStart => exact ⟨k + 1, Nat.le_refl _, by omega, by go_num, unhide P1⟩
        case round =>
          obtain ⟨m, hm0, hmn, rfl, hpcm⟩ := hrel
          have PCM := hide hpcm
          clear hpcm
          by_cases hml : m < n
          · obtain ⟨z, hz⟩ := getElem?_lt_some t m (by have := unhide HN; omega)
            have cz := (unhide H) m z hz
            have jz : (m : Int) < (n : Int) := by omega
            have C := hide (dig37 z w)
            cases hdz : dg z
            · rw [hdz] at C
              clear hdz hz
              go_wp2_with fail
              refine (unhide C).mono ?_
              clear C
              rintro e w' ⟨hw, rfl⟩
              have hw := hw.symm
              subst hw
              simp only []
              by_cases hmd : m = k + 1
              · subst hmd
                go_wp2
                all_goals first
                  | (go_ret; exact ⟨Kp.refl _ _, .inl rfl⟩)
                  | (exfalso; omega)
              · have gmd : ((m : Int) == ((k + 1 : Nat) : Int)) = false := by simp; omega
                go_wp2
                all_goals first
                  | (go_ret; exact ⟨Kp.refl _ _, .inr ⟨m, rfl, by omega, by have := unhide HN; omega, unhide PCM⟩⟩)
                  | (exfalso; omega)
            · have PN := hide ((unhide PCM).snoc hz (dg_plain hdz))
              rw [hdz] at C
              clear hdz hz
              go_wp2_with fail
              refine (unhide C).mono ?_
              clear C
              rintro e w' ⟨hw, rfl⟩
              have hw := hw.symm
              subst hw
              simp only []
              go_wp2
              go_round
              case rel => exact ⟨m + 1, by omega, by omega, by go_num, unhide PN⟩
              case measure => simp [intOf]; omega
          · have jz : ¬ (m : Int) < (n : Int) := by omega
            by_cases hmd : m = k + 1
            · subst hmd
              go_wp2
              all_goals first
                | (go_ret; exact ⟨Kp.refl _ _, .inl rfl⟩)
                | (exfalso; omega)
            · have gmd : ((m : Int) == ((k + 1 : Nat) : Int)) = false := by simp; omega
              go_wp2
              all_goals first
                | (go_ret; exact ⟨Kp.refl _ _, .inr ⟨m, rfl, by omega, by have := unhide HN; omega, unhide PCM⟩⟩)
                | (exfalso; omega)
    have ge' : (y == 69) = false := by simp [he]
    go_wp2
    go_ret
    exact ⟨Kp.refl _ _, .inr ⟨k, rfl, by omega, by have := unhide HN; omega, unhide PK⟩⟩
  · have j1 : ¬ (k : Int) < (n : Int) := by omega
    go_wp2
    go_ret
    exact ⟨Kp.refl _ _, .inr ⟨k, rfl, by omega, by have := unhide HN; omega, unhide PK⟩⟩

set_option maxRecDepth 1000000 in
set_option maxHeartbeats 4000000 in
theorem num14 (b o n c p k : Nat) (t : List Int) (w : World) (u1 u2 u3 u4 u6 u7 u8 u9 u10 u11 u12 u13 u14 u15 u16 u17 u18 u19 u20 u21 u22 u23 u24 u25 u26 u27 u28 u29 u30 u31 u32 u33 u34 u35 u36 u37 u38 u39 u40 u41 u42 u43 u44 u45 u46 u47 u48 u49 u50 u51 u52 u53 u54 u55 u56 u57 u58 u59 u60 u61 u62 u63 u64 u65 u66 u67 u68 u69 u70 u71 u72 u73 u74 u75 u76 u77 u78 u79 u80 u81 u82 u83 u84 u85 u86 u87 u88 u89 u90 u91 u92 u93 u94 u95 u96 u97 u98 u99 u100 u101 u102 u103 u104 u105 u106 u107 u108 u109 u110 u111 u112 u113 u114 u115 u116 u117 u118 u119 u120 u121 u122 u123 u124 u125 u126 u127 u128 u129 u130 u131 u132 u133 u134 u135 u136 u137 u138 u139 u140 u141 u142 u143 u144 u145 u146 u147 : Value) (H : Hid (∀ i x, t[i]? = some x → w.cell? ⟨b, o + i, none⟩ = some (.int .u8 x))) (HN : Hid (t.length = n)) (hl : n ≤ 65536) (hpk : p < k) (hk : k ≤ n) (PK : Hid (PC t p k))
    (K2 : Act → World → Prop) (hK2 : ∀ a w', Code.wp Try.prog (restOf2 14 Try.f29) (bodyPost Try.prog Try.f29 (ScO w t p)) a w' → K2 a w')
    (K1 : Act → World → Prop) (hK1 : ∀ a w', Code.wp Try.prog (ifRest 14 Try.f29) (Exit.then K2 (bodyPost Try.prog Try.f29 (ScO w t p))) a w' → K1 a w') :
    Code.wp Try.prog (ifHead 14 Try.f29) (Exit.then K1 (Exit.then K2 (bodyPost Try.prog Try.f29 (ScO w t p)))) ⟨#[.slice (some ⟨b, o, none⟩) n c, u1, u2, u3, u4, .int .i64 k, u6, u7, u8, u9, u10, u11, u12, u13, u14, u15, u16, u17, u18, u19, u20, u21, u22, u23, u24, u25, u26, u27, u28, u29, u30, u31, u32, u33, u34, u35, u36, u37, u38, u39, u40, u41, u42, u43, u44, u45, u46, u47, u48, u49, u50, u51, u52, u53, u54, u55, u56, u57, u58, u59, u60, u61, u62, u63, u64, u65, u66, u67, u68, u69, u70, u71, u72, u73, u74, u75, u76, u77, u78, u79, u80, u81, u82, u83, u84, u85, u86, u87, u88, u89, u90, u91, u92, u93, u94, u95, u96, u97, u98, u99, u100, u101, u102, u103, u104, u105, u106, u107, u108, u109, u110, u111, u112, u113, u114, u115, u116, u117, u118, u119, u120, u121, u122, u123, u124, u125, u126, u127, u128, u129, u130, u131, u132, u133, u134, u135, u136, u137, u138, u139, u140, u141, u142, u143, u144, u145, u146, u147], []⟩ w := by
  conv at hK2 => enter [a, w', 1, 2]; whnf
  conv at hK1 => enter [a, w', 1, 2]; whnf
  conv => arg 2; whnf
  by_cases hkn : k < n
  · obtain ⟨y, hy⟩ := getElem?_lt_some t k (by have := unhide HN; omega)
    have c1 := (unhide H) k y hy
    have j1 : (k : Int) < (n : Int) := by omega
    by_cases he : y = 46
    · subst he
      have P1 := hide ((unhide PK).snoc hy rfl)
      clear hy
      go_wp2
      go_loop [5] (fun x => ∃ m : Nat, k + 1 ≤ m ∧ m ≤ n ∧ x = .int .i64 m ∧ PC t p m) (fun x => n - (intOf x).toNat)
      case atStart => exact ⟨k + 1, Nat.le_refl _, by omega, by go_num, unhide P1⟩
      case round =>
        obtain ⟨m, hm0, hmn, rfl, hpcm⟩ := hrel
        have PCM := hide hpcm
        clear hpcm
        by_cases hml : m < n
        · obtain ⟨z, hz⟩ := getElem?_lt_some t m (by have := unhide HN; omega)
          have cz := (unhide H) m z hz
          have jz : (m : Int) < (n : Int) := by omega
          have C := hide (dig37 z w)
          cases hdz : dg z
          · rw [hdz] at C
            clear hdz hz
            go_wp2_with fail
            refine (unhide C).mono ?_
            clear C
            rintro e w' ⟨hw, rfl⟩
            have hw := hw.symm
            subst hw
            simp only []
            by_cases hmd : m = k + 1
            · subst hmd
              go_wp2
              all_goals first
                | (go_ret; exact ⟨Kp.refl _ _, .inl rfl⟩)
                | (exfalso; omega)
            · have gmd : ((m : Int) == ((k : Int) + 1)) = false := by simp; omega
              go_upto_region 21 with fail
              refine num21 b o n c p m t w _ _ _ _ _ _ _ _ _ _ _ _ _ _ _ _ _ _ _ _ _ _ _ _ _ _ _ _ _ _ _ _ _ _ _ _ _ _ _ _ _ _ _ _ _ _ _ _ _ _ _ _ _ _ _ _ _ _ _ _ _ _ _ _ _ _ _ _ _ _ _ _ _ _ _ _ _ _ _ _ _ _ _ _ _ _ _ _ _ _ _ _ _ _ _ _ _ _ _ _ _ _ _ _ _ _ _ _ _ _ _ _ _ _ _ _ _ _ _ _ _ _ _ _ _ _ _ _ _ _ _ _ _ _ _ _ _ _ _ _ _ _ _ _ _ _ H HN hl (by omega) (by omega) (PCM) _ ?_ _ ?_ <;> assumption
          · have PN := hide ((unhide PCM).snoc hz (dg_plain hdz))
            rw [hdz] at C
            clear hdz hz
            go_wp2_with fail
            refine (unhide C).mono ?_
            clear C
            rintro e w' ⟨hw, rfl⟩
            have hw := hw.symm
            subst hw
            simp only []
            go_wp2
            go_round
            case rel => exact ⟨m + 1, by omega, by omega, by go_num, unhide PN⟩
            case measure => simp [intOf]; omega
        · have jz : ¬ (m : Int) < (n : Int) := by omega
          by_cases hmd : m = k + 1
          · subst hmd
            go_wp2
            all_goals first
              | (go_ret; exact ⟨Kp.refl _ _, .inl rfl⟩)
              | (exfalso; omega)
          · have gmd : ((m : Int) == ((k : Int) + 1)) = false := by simp; omega
            go_upto_region 21 with fail
            refine num21 b o n c p m t w _ _ _ _ _ _ _ _ _ _ _ _ _ _ _ _ _ _ _ _ _ _ _ _ _ _ _ _ _ _ _ _ _ _ _ _ _ _ _ _ _ _ _ _ _ _ _ _ _ _ _ _ _ _ _ _ _ _ _ _ _ _ _ _ _ _ _ _ _ _ _ _ _ _ _ _ _ _ _ _ _ _ _ _ _ _ _ _ _ _ _ _ _ _ _ _ _ _ _ _ _ _ _ _ _ _ _ _ _ _ _ _ _ _ _ _ _ _ _ _ _ _ _ _ _ _ _ _ _ _ _ _ _ _ _ _ _ _ _ _ _ _ _ _ _ _ H HN hl (by omega) (by omega) (PCM) _ ?_ _ ?_ <;> assumption
    · have ge : (y == 46) = false := by simp [he]
      clear hy
      go_upto_region 21 with fail
      refine num21 b o n c p k t w _ _ _ _ _ _ _ _ _ _ _ _ _ _ _ _ _ _ _ _ _ _ _ _ _ _ _ _ _ _ _ _ _ _ _ _ _ _ _ _ _ _ _ _ _ _ _ _ _ _ _ _ _ _ _ _ _ _ _ _ _ _ _ _ _ _ _ _ _ _ _ _ _ _ _ _ _ _ _ _ _ _ _ _ _ _ _ _ _ _ _ _ _ _ _ _ _ _ _ _ _ _ _ _ _ _ _ _ _ _ _ _ _ _ _ _ _ _ _ _ _ _ _ _ _ _ _ _ _ _ _ _ _ _ _ _ _ _ _ _ _ _ _ _ _ _ H HN hl (by omega) (by omega) (PK) _ ?_ _ ?_ <;> assumption
  · have j1 : ¬ (k : Int) < (n : Int) := by omega
    go_upto_region 21 with fail
    refine num21 b o n c p k t w _ _ _ _ _ _ _ _ _ _ _ _ _ _ _ _ _ _ _ _ _ _ _ _ _ _ _ _ _ _ _ _ _ _ _ _ _ _ _ _ _ _ _ _ _ _ _ _ _ _ _ _ _ _ _ _ _ _ _ _ _ _ _ _ _ _ _ _ _ _ _ _ _ _ _ _ _ _ _ _ _ _ _ _ _ _ _ _ _ _ _ _ _ _ _ _ _ _ _ _ _ _ _ _ _ _ _ _ _ _ _ _ _ _ _ _ _ _ _ _ _ _ _ _ _ _ _ _ _ _ _ _ _ _ _ _ _ _ _ _ _ _ _ _ _ _ H HN hl (by omega) (by omega) (PK) _ ?_ _ ?_ <;> assumption
end Go.Proofs.Qxb6601492a
