/-
  SkipObject: skip (24), its shim (11).
-/
import Derived.Test.Qxb6601492aSkJ
set_option linter.unusedSimpArgs false
set_option linter.unusedVariables false
namespace Go.Proofs.Qxb6601492a
open Go.RowKit

set_option maxRecDepth 100000 in
set_option maxHeartbeats 2000000 in
theorem skipStr24 (wB b o n c p k : Nat) (t : List Int) (u : World) (hW : WB u wB b o n c p) (hT : Txt u b o t) (hbw : b ≠ wB) (hn : t.length = n) (hl : n ≤ 65536) (hS : STR t p k) :
    Calls Try.prog 24 #[.pointer (some ⟨wB, 0, none⟩)] u (AtO u wB b o n c k) := by
  have a0 : u.cell? ⟨wB, 0, none⟩ = some (.slice (some ⟨b, o, none⟩) n c) := hW.cell rfl
  have a1 : u.cell? ⟨wB, 1, none⟩ = some (.int .i64 p) := hW.cell rfl
  have a2 := hT.2 p 34 hS.1
  have hle := hS.le
  have hpn : p < n := by omega
  have j1 : (p : Int) < (n : Int) := by omega
  have C : Hid (∀ m, Calls Try.prog 31 #[.pointer (some ⟨wB, 0, none⟩)] (u.drewN m) (AtO (u.drewN m) wB b o n c k)) := fun m => skipS31 wB b o n c p k t (u.drewN m) (hW.drewN m) (hT.keep ((Kp.refl _ _).drewN m)) hbw hn hl hS.2
  clear hW hT hn hS
  go_enter Try.func24, Try.ntmps24
  go_wp2
  go_quiet (fail)
  go_wp2_with fail
  refine ((unhide C) _).mono ?_
  rintro e v ⟨rfl, hW, hK⟩
  have F := hide (show AtO u wB b o n c k (.returned (.tuple #[])) v from ⟨rfl, hW, (((Kp.refl [wB] u).drewN _).trans hK)⟩)
  clear hW hK C
  simp only []
  go_wp2
  first | (go_end0; exact unhide F) | (refine bodyPost_ret (v := .tuple #[]) (by simp [results, Try.results24, go_sem]) rfl ?_; exact unhide F)

set_option maxRecDepth 100000 in
set_option maxHeartbeats 4000000 in
theorem skipObj24 (wB b o n c p e : Nat) (t : List Int) (u : World) (hW : WB u wB b o n c p) (hT : Txt u b o t) (hbw : b ≠ wB) (hn : t.length = n) (hl : n ≤ 65536) (x0 : Int) (hx : t[p]? = some x0) (hx0 : x0 = 123 ∨ x0 = 91) (hS : ∃ f, DS t f p 0 e) :
    Calls Try.prog 24 #[.pointer (some ⟨wB, 0, none⟩)] u (AtO u wB b o n c e) := by
  have a0 : u.cell? ⟨wB, 0, none⟩ = some (.slice (some ⟨b, o, none⟩) n c) := hW.cell rfl
  have a1 : u.cell? ⟨wB, 1, none⟩ = some (.int .i64 p) := hW.cell rfl
  have a2 := hT.2 p x0 hx
  have hpn : p < n := by have := lt_of_at hx; omega
  have j1 : (p : Int) < (n : Int) := by omega
  have hbw' : wB ≠ b := Ne.symm hbw
  have TK : Hid (∀ wr, Kp [wB] u wr → Txt wr b o t) := fun wr h => hT.kp h (by simpa using hbw)
  have W0 := hide hW
  have HN := hide hn
  have HS := hide hS
  have HX := hide hx
  have HX0 := hide hx0
  have C : Hid (∀ i k v, Kp [wB] u v → WB v wB b o n c i → (∃ f, ss t f (i + 1) = some k) → Calls Try.prog 31 #[.pointer (some ⟨wB, 0, none⟩)] v (AtO v wB b o n c k)) := fun i k v h1 h2 h3 => skipS31 wB b o n c i k t v h2 ((unhide TK) v h1) hbw hn hl h3
  clear hW hT hn hS hx
  rcases hx0 with rfl | rfl
  all_goals
    go_enter Try.func24, Try.ntmps24
    go_wp2
    go_quiet (fail)
    go_wp2
    go_loopw [2] (fun x wr => ∃ i d f : Nat, d ≤ i ∧ x = .int .i64 d ∧ WB wr wB b o n c i ∧ Kp [wB] u wr ∧ (1 ≤ d ∨ (d = 0 ∧ i = p)) ∧ DS t f i d e) (fun _ wr => n - posOf wB wr)
    case atStart =>
      obtain ⟨f, hf⟩ := unhide HS
      exact ⟨p, 0, f, Nat.zero_le _, rfl, (unhide W0).drewN _, (Kp.refl _ _).drewN _, .inr ⟨rfl, rfl⟩, hf⟩
    case round =>
      obtain ⟨i, d, f, hdi, rfl, hW, hK, hd, hD⟩ := hrel
      cases f with
      | zero => exact hD.elim
      | succ f =>
      have hgt := hD.lt
      obtain ⟨y, hy, hD⟩ := hD
      have d0 : wr.cell? ⟨wB, 0, none⟩ = some (.slice (some ⟨b, o, none⟩) n c) := hW.cell rfl
      have d1 : wr.cell? ⟨wB, 1, none⟩ = some (.int .i64 i) := hW.cell rfl
      have g1 : wr.frozen? ⟨wB, 1, none⟩ = false := hW.frozen 1
      have d2 := ((unhide TK) wr hK).2 i y hy
      have hin : i < n := by have := unhide HN; omega
      have j1 : (i : Int) < (n : Int) := by omega
      have hd' : 1 ≤ d ∨ y = 123 ∨ y = 91 := by
        rcases hd with h | ⟨_, rfl⟩
        · exact .inl h
        · rw [unhide HX] at hy
          cases hy
          exact .inr (by first | exact .inl rfl | exact .inr rfl)
      have HW := hide hW
      have HK := hide hK
      clear hW hK hd
      rcases hD with ⟨rfl, k, hk, hD⟩ | ⟨hne, hd2⟩
      · have hd1 : 1 ≤ d := by omega
        have C' : Hid (∀ m, Calls Try.prog 31 #[.pointer (some ⟨wB, 0, none⟩)] (wr.drewN m) (AtO (wr.drewN m) wB b o n c k)) := fun m => (unhide C) i k _ ((unhide HK).drewN m) ((unhide HW).drewN m) hk
        have HD := hide hD
        have hik : i + 1 < k := by obtain ⟨g, hg⟩ := hk; have := ss_gt hg; omega
        clear hy hD hk
        go_wp2
        go_quiet (fail)
        go_wp2_with fail
        refine ((unhide C') _).mono ?_
        rintro e v ⟨rfl, hWv, hKv⟩
        have HWv := hide hWv
        have HKv := hide (((unhide HK).drewN _).trans hKv)
        clear hWv hKv C'
        simp only []
        go_wp2
        go_roundw
        case rel => exact ⟨k, d, f, by omega, rfl, unhide HWv, unhide HKv, .inl hd1, unhide HD⟩
        case measure => exact posw (j := k) (unhide HWv) (unhide HW) (by omega) hin
      · have g34 : (y == 34) = false := by simp [hne]
        clear hy
        by_cases h123 : y = 123
        · subst h123
          have hnd : nd 123 d = d + 1 := by simp [nd]
          clear hd'
          rw [hnd] at hd2
          by_cases hz : (d + 1) = 0
          · rcases hd2 with ⟨h1, h2⟩ | ⟨h1, h2⟩
            case inr => exact absurd hz h1
            subst h2
            clear h1
            go_wp2
            go_quiet (fail)
            go_wp2
            all_goals first
              | (refine bodyPost_ret (v := .tuple #[]) (by simp [results, Try.results24, go_sem]) rfl ?_; exact ⟨rfl, (unhide HW).put _ _ (i + 1) (by omega), ((unhide HK).drewN _).setCell (.inl (by simp)) _⟩)
              | (go_end0; exact ⟨rfl, (unhide HW).put _ _ (i + 1) (by omega), ((unhide HK).drewN _).setCell (.inl (by simp)) _⟩)
              | (exfalso; omega)
          · rcases hd2 with ⟨h1, h2⟩ | ⟨h1, h2⟩
            case inl => exact absurd h1 hz
            have HD2 := hide h2
            clear h1 h2
            go_wp2
            go_quiet (fail)
            go_wp2
            all_goals first
              | (exfalso; omega)
              | skip
            go_roundw
            case rel => exact ⟨i + 1, (d + 1), f, by omega, by go_num, (unhide HW).put _ _ (i + 1) (by omega), ((unhide HK).drewN _).setCell (.inl (by simp)) _, .inl (by omega), unhide HD2⟩
            case measure => exact posw (j := i + 1) ((unhide HW).put _ _ (i + 1) (by omega)) (unhide HW) (by omega) hin
        have g123 : (y == 123) = false := by simp [h123]
        by_cases h91 : y = 91
        · subst h91
          have hnd : nd 91 d = d + 1 := by simp [nd]
          clear hd'
          rw [hnd] at hd2
          by_cases hz : (d + 1) = 0
          · rcases hd2 with ⟨h1, h2⟩ | ⟨h1, h2⟩
            case inr => exact absurd hz h1
            subst h2
            clear h1
            go_wp2
            go_quiet (fail)
            go_wp2
            all_goals first
              | (refine bodyPost_ret (v := .tuple #[]) (by simp [results, Try.results24, go_sem]) rfl ?_; exact ⟨rfl, (unhide HW).put _ _ (i + 1) (by omega), ((unhide HK).drewN _).setCell (.inl (by simp)) _⟩)
              | (go_end0; exact ⟨rfl, (unhide HW).put _ _ (i + 1) (by omega), ((unhide HK).drewN _).setCell (.inl (by simp)) _⟩)
              | (exfalso; omega)
          · rcases hd2 with ⟨h1, h2⟩ | ⟨h1, h2⟩
            case inl => exact absurd h1 hz
            have HD2 := hide h2
            clear h1 h2
            go_wp2
            go_quiet (fail)
            go_wp2
            all_goals first
              | (exfalso; omega)
              | skip
            go_roundw
            case rel => exact ⟨i + 1, (d + 1), f, by omega, by go_num, (unhide HW).put _ _ (i + 1) (by omega), ((unhide HK).drewN _).setCell (.inl (by simp)) _, .inl (by omega), unhide HD2⟩
            case measure => exact posw (j := i + 1) ((unhide HW).put _ _ (i + 1) (by omega)) (unhide HW) (by omega) hin
        have g91 : (y == 91) = false := by simp [h91]
        have hd1 : 1 ≤ d := by omega
        clear hd'
        by_cases h125 : y = 125
        · subst h125
          have hnd : nd 125 d = d - 1 := by simp [nd]

          rw [hnd] at hd2
          by_cases hz : (d - 1) = 0
          · rcases hd2 with ⟨h1, h2⟩ | ⟨h1, h2⟩
            case inr => exact absurd hz h1
            subst h2
            clear h1
            go_wp2
            go_quiet (fail)
            go_wp2
            all_goals first
              | (refine bodyPost_ret (v := .tuple #[]) (by simp [results, Try.results24, go_sem]) rfl ?_; exact ⟨rfl, (unhide HW).put _ _ (i + 1) (by omega), ((unhide HK).drewN _).setCell (.inl (by simp)) _⟩)
              | (go_end0; exact ⟨rfl, (unhide HW).put _ _ (i + 1) (by omega), ((unhide HK).drewN _).setCell (.inl (by simp)) _⟩)
              | (exfalso; omega)
          · rcases hd2 with ⟨h1, h2⟩ | ⟨h1, h2⟩
            case inl => exact absurd h1 hz
            have HD2 := hide h2
            clear h1 h2
            go_wp2
            go_quiet (fail)
            go_wp2
            all_goals first
              | (exfalso; omega)
              | skip
            go_roundw
            case rel => exact ⟨i + 1, (d - 1), f, by omega, by go_num, (unhide HW).put _ _ (i + 1) (by omega), ((unhide HK).drewN _).setCell (.inl (by simp)) _, .inl (by omega), unhide HD2⟩
            case measure => exact posw (j := i + 1) ((unhide HW).put _ _ (i + 1) (by omega)) (unhide HW) (by omega) hin
        have g125 : (y == 125) = false := by simp [h125]
        by_cases h93 : y = 93
        · subst h93
          have hnd : nd 93 d = d - 1 := by simp [nd]

          rw [hnd] at hd2
          by_cases hz : (d - 1) = 0
          · rcases hd2 with ⟨h1, h2⟩ | ⟨h1, h2⟩
            case inr => exact absurd hz h1
            subst h2
            clear h1
            go_wp2
            go_quiet (fail)
            go_wp2
            all_goals first
              | (refine bodyPost_ret (v := .tuple #[]) (by simp [results, Try.results24, go_sem]) rfl ?_; exact ⟨rfl, (unhide HW).put _ _ (i + 1) (by omega), ((unhide HK).drewN _).setCell (.inl (by simp)) _⟩)
              | (go_end0; exact ⟨rfl, (unhide HW).put _ _ (i + 1) (by omega), ((unhide HK).drewN _).setCell (.inl (by simp)) _⟩)
              | (exfalso; omega)
          · rcases hd2 with ⟨h1, h2⟩ | ⟨h1, h2⟩
            case inl => exact absurd h1 hz
            have HD2 := hide h2
            clear h1 h2
            go_wp2
            go_quiet (fail)
            go_wp2
            all_goals first
              | (exfalso; omega)
              | skip
            go_roundw
            case rel => exact ⟨i + 1, (d - 1), f, by omega, by go_num, (unhide HW).put _ _ (i + 1) (by omega), ((unhide HK).drewN _).setCell (.inl (by simp)) _, .inl (by omega), unhide HD2⟩
            case measure => exact posw (j := i + 1) ((unhide HW).put _ _ (i + 1) (by omega)) (unhide HW) (by omega) hin
        have g93 : (y == 93) = false := by simp [h93]
        have hnd : nd y d = d := by simp [nd, h123, h91, h125, h93]

        rw [hnd] at hd2
        by_cases hz : d = 0
        · rcases hd2 with ⟨h1, h2⟩ | ⟨h1, h2⟩
          case inr => exact absurd hz h1
          subst h2
          clear h1
          go_wp2
          go_quiet (fail)
          go_wp2
          all_goals first
            | (refine bodyPost_ret (v := .tuple #[]) (by simp [results, Try.results24, go_sem]) rfl ?_; exact ⟨rfl, (unhide HW).put _ _ (i + 1) (by omega), ((unhide HK).drewN _).setCell (.inl (by simp)) _⟩)
            | (go_end0; exact ⟨rfl, (unhide HW).put _ _ (i + 1) (by omega), ((unhide HK).drewN _).setCell (.inl (by simp)) _⟩)
            | (exfalso; omega)
        · rcases hd2 with ⟨h1, h2⟩ | ⟨h1, h2⟩
          case inl => exact absurd h1 hz
          have HD2 := hide h2
          clear h1 h2
          go_wp2
          go_quiet (fail)
          go_wp2
          all_goals first
            | (exfalso; omega)
            | skip
          go_roundw
          case rel => exact ⟨i + 1, d, f, by omega, by go_num, (unhide HW).put _ _ (i + 1) (by omega), ((unhide HK).drewN _).setCell (.inl (by simp)) _, .inl (by omega), unhide HD2⟩
          case measure => exact posw (j := i + 1) ((unhide HW).put _ _ (i + 1) (by omega)) (unhide HW) (by omega) hin
end Go.Proofs.Qxb6601492a
