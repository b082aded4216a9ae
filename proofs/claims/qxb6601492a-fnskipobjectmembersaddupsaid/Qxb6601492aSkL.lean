/-
  SkipObject: skip (24) over a number or a literal; its shim (11).
-/
import Derived.Test.Qxb6601492aSkK
set_option linter.unusedSimpArgs false
set_option linter.unusedVariables false
namespace Go.Proofs.Qxb6601492a
open Go.RowKit

theorem pureQ {P : Program} {f : FuncId} {args : Array Value} {w : World} {v : Value} (h : Calls P f args w (Pure w v)) : Calls P f args w (fun e w' => e = .returned v ∧ w' = w) :=
  h.mono fun _ _ ⟨h1, h2⟩ => ⟨h2, h1⟩

set_option maxRecDepth 100000 in
set_option maxHeartbeats 4000000 in
theorem skipSc24 (wB b o n c p e : Nat) (t : List Int) (u : World) (hW : WB u wB b o n c p) (hT : Txt u b o t) (hbw : b ≠ wB) (hn : t.length = n) (hl : n ≤ 65536) (hS : SC t p e) (hE : ∀ c, t[e]? = some c → ender c = true) :
    Calls Try.prog 24 #[.pointer (some ⟨wB, 0, none⟩)] u (AtO u wB b o n c e) := by
  obtain ⟨hpe, hen, hpc⟩ := hS
  obtain ⟨x0, hx, hpl⟩ := hpc p (Nat.le_refl _) hpe
  obtain ⟨h34, h123, h91, _⟩ := plain_ne hpl
  have a0 : u.cell? ⟨wB, 0, none⟩ = some (.slice (some ⟨b, o, none⟩) n c) := hW.cell rfl
  have a1 : u.cell? ⟨wB, 1, none⟩ = some (.int .i64 p) := hW.cell rfl
  have a2 := hT.2 p x0 hx
  have hpn : p < n := by have := lt_of_at hx; omega
  have j1 : (p : Int) < (n : Int) := by omega
  have hbw' : wB ≠ b := Ne.symm hbw
  have TK : Hid (∀ wr, Kp [wB] u wr → Txt wr b o t) := fun wr h => hT.kp h (by simpa using hbw)
  have W0 := hide hW
  have HN := hide hn
  have HPC := hide hpc
  have HE := hide hE
  have k34 : (x0 == 34) = false := by simp [h34]
  have k123 : (x0 == 123) = false := by simp [h123]
  have k91 : (x0 == 91) = false := by simp [h91]
  clear hW hT hn hx hpc hE hpl h34 h123 h91
  go_enter Try.func24, Try.ntmps24
  go_wp2
  go_quiet (fail)
  go_wp2
  go_loopw [13] (fun x wr => ∃ i : Nat, p ≤ i ∧ i ≤ e ∧ WB wr wB b o n c i ∧ Kp [wB] u wr) (fun _ wr => n - posOf wB wr)
  case atStart => exact ⟨p, Nat.le_refl _, by omega, (unhide W0).drewN _, (Kp.refl _ _).drewN _⟩
  case round =>
    obtain ⟨i, hpi, hie, hW, hK⟩ := hrel
    have d0 : wr.cell? ⟨wB, 0, none⟩ = some (.slice (some ⟨b, o, none⟩) n c) := hW.cell rfl
    have d1 : wr.cell? ⟨wB, 1, none⟩ = some (.int .i64 i) := hW.cell rfl
    have g1 : wr.frozen? ⟨wB, 1, none⟩ = false := hW.frozen 1
    have HW := hide hW
    have HK := hide hK
    have TR := hide ((unhide TK) wr hK)
    clear hW hK
    have enn : e ≤ n := by have := unhide HN; omega
    by_cases hin : i < n
    · obtain ⟨y, hy⟩ := getElem?_lt_some t i (by have := unhide HN; omega)
      have d2 := (unhide TR).2 i y hy
      have j2 : (i : Int) < (n : Int) := by omega
      by_cases hlt : i < e
      · obtain ⟨y', hy', hp'⟩ := (unhide HPC) i hpi hlt
        rw [hy] at hy'
        cases hy'
        have EN := hide (plain_ne hp').2.2.2.2.2.2.2
        have C : Hid (∀ v, Calls Try.prog 35 #[.int .u8 y] v (Pure v (.bool false))) := fun v => by have := ends35 y v; rwa [unhide EN] at this
        clear hy hp' EN
        go_wp2
        go_quiet ((go_at_call 35; exact Calls.quiet_of_same (pureQ ((unhide C) _))))
        go_wp2
        go_roundw
        case rel => exact ⟨i + 1, by omega, by omega, (unhide HW).put _ _ (i + 1) (by omega), ((unhide HK).drewN _).setCell (.inl (by simp)) _⟩
        case measure => exact posw (j := i + 1) ((unhide HW).put _ _ (i + 1) (by omega)) (unhide HW) (by omega) hin
      · obtain rfl : i = e := by omega
        have EN := hide ((unhide HE) y hy)
        have C : Hid (∀ v, Calls Try.prog 35 #[.int .u8 y] v (Pure v (.bool true))) := fun v => by have := ends35 y v; rwa [unhide EN] at this
        clear hy EN
        go_wp2
        go_quiet ((go_at_call 35; exact Calls.quiet_of_same (pureQ ((unhide C) _))))
        go_wp2
        first | (go_end0; exact ⟨rfl, (unhide HW).drewN _, (unhide HK).drewN _⟩) | (refine bodyPost_ret (v := .tuple #[]) (by simp [results, Try.results24, go_sem]) rfl ?_; exact ⟨rfl, (unhide HW).drewN _, (unhide HK).drewN _⟩)
    · obtain rfl : i = e := by omega
      have j2 : decide ((i : Int) < (n : Int)) = false := by simp; omega
      have j3 : ¬ i < n := hin
      go_wp2
      go_quiet (fail)
      go_wp2
      first | (go_end0; exact ⟨rfl, (unhide HW).drewN _, (unhide HK).drewN _⟩) | (refine bodyPost_ret (v := .tuple #[]) (by simp [results, Try.results24, go_sem]) rfl ?_; exact ⟨rfl, (unhide HW).drewN _, (unhide HK).drewN _⟩)

theorem skip24 (wB b o n c p e : Nat) (t : List Int) (u : World) (hW : WB u wB b o n c p) (hT : Txt u b o t) (hbw : b ≠ wB) (hn : t.length = n) (hl : n ≤ 65536) (hS : Sk t p e) :
    Calls Try.prog 24 #[.pointer (some ⟨wB, 0, none⟩)] u (AtO u wB b o n c e) := by
  rcases hS with h | h | ⟨h, hE⟩
  · exact skipStr24 wB b o n c p e t u hW hT hbw hn hl h
  · obtain ⟨x0, hx, hx0⟩ := h.1
    exact skipObj24 wB b o n c p e t u hW hT hbw hn hl x0 hx hx0 h.skip
  · exact skipSc24 wB b o n c p e t u hW hT hbw hn hl h hE

set_option maxRecDepth 100000 in
theorem zzSkip11 (b o n c p k : Nat) (t : List Int) (u : World) (hT : Txt u b o t) (hn : t.length = n) (hl : n ≤ 65536) (hS : Sk t p k) :
    Calls Try.prog 11 #[.slice (some ⟨b, o, none⟩) n c, .int .i64 (p : Nat)] u (Num u k) := by
  obtain ⟨w1, w2, w3, w4⟩ := new_walk u b o n c p t hT
  have C := hide (skip24 u.heap.size b o n c p k t _ w1 w2 w3 hn hl hS)
  have K := hide w4
  clear w1 w2 w3 w4 hT hn hS
  go_enter Try.func11, Try.ntmps11
  go_wp2_with fail
  refine (unhide C).mono ?_
  clear C
  rintro e v ⟨rfl, hW, hK⟩
  have KK := hide ((unhide K).then hK (fun i hi => by simp at hi; right; omega))
  have d1 : v.cell? ⟨u.heap.size, 1, none⟩ = some (.int .i64 k) := hW.cell rfl
  clear hW hK
  simp only []
  go_wp2
  go_ret
  exact ⟨rfl, unhide KK⟩
end Go.Proofs.Qxb6601492a
