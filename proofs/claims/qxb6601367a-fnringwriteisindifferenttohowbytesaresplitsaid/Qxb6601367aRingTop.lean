/-
  FnRingWriteIsIndifferentToHowBytesAreSplit (8): THE WALK.
-/
import Derived.Test.Qxb6601367aRingMid
set_option linter.unusedSimpArgs false
set_option linter.unusedVariables false
namespace Go.Proofs.Qxb6601367a
open Go.RowKit


theorem blk_made (w : World) (n : Nat) : Blk (w.alloc (.cells (madeCells #[.int .u8 0] n) 5)) w.heap.size (List.replicate n (.int .u8 0)) 5 := by
  have := Blk.new w (madeCells #[.int .u8 0] n) 5
  rwa [made_list] at this

set_option maxRecDepth 1000000 in
set_option maxHeartbeats 4000000 in
theorem ring8 (size nx wt : Int) (pb p q : Option Addr) (nb cb np cp nq cq : Nat) (bs ps qs : List Int) (w : World)
    (hbb : Src w pb (bs.map (Value.int .u8))) (hpp : Src w p (ps.map (Value.int .u8))) (hqq : Src w q (qs.map (Value.int .u8))) (lb : bs.length = nb) (lp : ps.length = np) (lq : qs.length = nq)
    (nb0 : pb = none → nb = 0 ∧ cb = 0) (np0 : p = none → np = 0 ∧ cp = 0) (nq0 : q = none → nq = 0 ∧ cq = 0) (hwt : -9223372036854775808 ≤ wt ∧ wt ≤ 9223372036854775807) :
    Calls Try.prog 8 #[.int .i64 size, .slice pb nb cb, .int .i64 nx, .int .i64 wt, .slice p np cp, .slice q nq cq] w (RetTrue w) := by
  have HZ := hide (zzB28 size nx wt pb p q nb np nq cb cp cq w)
  have HBB := hide hbb
  have HPP := hide hpp
  have HQQ := hide hqq
  have LB := hide lb
  have LP := hide lp
  have LQ := hide lq
  have NB := hide nb0
  have NP := hide np0
  have NQ := hide nq0
  have HWT := hide hwt
  clear hbb hpp hqq lb lp lq nb0 np0 nq0 hwt
  go_enter Try.func8, Try.ntmps8
  go_wp2_with fail
  refine (unhide HZ).mono ?_
  clear HZ
  rintro e w' ⟨hw, b, rfl⟩
  have hw := hw.symm
  subst hw
  simp only []
  cases b
  · go_wp2
    go_ret
    exact ⟨rfl, Below.refl _ _⟩
  by_cases hm : nb + np + nq ≤ 1048576
  case neg =>
    go_wp2
    all_goals first
      | (go_ret; exact ⟨rfl, Below.refl _ _⟩)
      | (exfalso; omega)
  have m1 : nb ≤ 1048576 := by omega
  have m2 : np ≤ 1048576 := by omega
  have m3 : nq ≤ 1048576 := by omega
  have i1 : (nb : Int) ≤ 1048576 := by omega
  have i2 : (np : Int) ≤ 1048576 := by omega
  have i3 : (nq : Int) ≤ 1048576 := by omega
  have i4 : (nb : Int) + (np : Int) + (nq : Int) ≤ 1048576 := by omega
  by_cases hs : 1 ≤ size ∧ size ≤ 65536
  case neg =>
    go_wp2
    all_goals first
      | (go_ret; exact ⟨rfl, Below.refl _ _⟩)
      | (exfalso; omega)
  obtain ⟨s1, s2⟩ := hs
  by_cases hl : (nb : Int) ≤ size ∧ 0 ≤ nx ∧ nx < size
  case neg =>
    go_wp2
    all_goals first
      | (go_ret; exact ⟨rfl, Below.refl _ _⟩)
      | (exfalso; omega)
  obtain ⟨l1, l2, l3⟩ := hl
  by_cases h0 : (nb : Int) < size ∧ nx ≠ 0
  case pos =>
    obtain ⟨h1, h2⟩ := h0
    have h2' : (nx == 0) = false := by simp [h2]
    go_wp2
    all_goals first
      | (go_ret; exact ⟨rfl, Below.refl _ _⟩)
      | (exfalso; omega)
  obtain ⟨sz, hsz⟩ := Int.eq_ofNat_of_zero_le (show 0 ≤ size by omega)
  obtain ⟨nx', hnx⟩ := Int.eq_ofNat_of_zero_le l2
  subst hsz
  subst hnx
  have h0' : nb < sz → nx' = 0 := fun h => by
    by_cases hx : nx' = 0
    · exact hx
    · exact absurd ⟨by omega, by omega⟩ h0
  have H0 := hide h0'
  clear h0 h0'
  have mkP : ∀ w, _ := fun w => run_make_row' (P := Try.prog) 23 5 (.int .u8 0) 1 Try.underlying23 info5 rfl .i64 .i64 np (by omega) (by omega) w
  have mkQ : ∀ w, _ := fun w => run_make_row' (P := Try.prog) 23 5 (.int .u8 0) 1 Try.underlying23 info5 rfl .i64 .i64 nq (by omega) (by omega) w
  have t1 : 1 ≤ sz := by omega
  have t2 : sz ≤ 65536 := by omega
  have t3 : nb ≤ sz := by omega
  have t4 : nx' < sz := by omega
  have t5 : ¬ sz < nb := by omega
  have t6 : ¬ sz ≤ nx' := by omega
  have eP : Hid ((ps.map (Value.int .u8)).length = Nat.min np np) := by show _ = _; rw [List.length_map, unhide LP]; exact (Nat.min_self np).symm
  have eQ : Hid ((qs.map (Value.int .u8)).length = Nat.min nq nq) := by show _ = _; rw [List.length_map, unhide LQ]; exact (Nat.min_self nq).symm
  have fP : Hid ((ps.map (Value.int .u8)).length ≤ (List.replicate np (Value.int .u8 0)).length) := by show _ ≤ _; rw [List.length_map, unhide LP, List.length_replicate]; exact Nat.le_refl _
  have fQ : Hid ((qs.map (Value.int .u8)).length ≤ (List.replicate nq (Value.int .u8 0)).length) := by show _ ≤ _; rw [List.length_map, unhide LQ, List.length_replicate]; exact Nat.le_refl _
  have dP : Hid ((ps.map (Value.int .u8)) ++ (List.replicate np (Value.int .u8 0)).drop (ps.map (Value.int .u8)).length = ps.map (Value.int .u8)) := by show _ = _; rw [List.length_map, unhide LP]; simp
  have dQ : Hid ((qs.map (Value.int .u8)) ++ (List.replicate nq (Value.int .u8 0)).drop (qs.map (Value.int .u8)).length = qs.map (Value.int .u8)) := by show _ = _; rw [List.length_map, unhide LQ]; simp
  by_cases hlt : nb < sz
  · have hn0 := (unhide H0) hlt
    subst hn0
    have hlt' : (nb : Int) < (sz : Int) := by omega
    have t7 : ¬ sz = 0 := by omega
    cases p with
    | none =>
      have NP' : Hid (np = 0 ∧ cp = 0) := (unhide NP) rfl
      clear NP
      cases q with
      | none =>
        have NQ' : Hid (nq = 0 ∧ cq = 0) := (unhide NQ) rfl
        clear NQ
        go_upto_region 19 with fail
        refine ringMid _ _ _ _ _ _ _ _ _ _ _ _ bs ps qs w w _ _ _ _ _ _ _ _ _ _ _ _ _ _ _ _ _ _ _ _ _ _ _ _ _ _ _ _ _ _ _ _ _ _ _ _ _ _ _ _ _ _ _ _ _ _ _ _ _ _ _ _ _ _ _ _ _ _ _ _ _ _ _ _ _ _ _ _ _ _ _ _ _ _ _ _ _ _ _ _ _ _ _ _ _ _ _ _ _ _ _ _ _ _ _ _ _ _ _ _ _ _ _ _ _ _ _ _ _ _ _ _ _ _ _ _ _ _ _ _ _ _ _ _ _ _ _ _ _ _ _ _ _ _ _ _ _ _ _ _ _ (unhide HBB) (unhide HPP) (unhide HQQ) (unhide LB) (unhide LP) (unhide LQ) (unhide NB) (fun _ => unhide NP') (fun _ => unhide NQ') (by have := unhide NP'; omega) (by have := unhide NQ'; omega) (fun a h => by cases h) (fun a h => by cases h) t1 t2 t3 t4 (unhide H0) hm (unhide HWT) (Below.refl _ _) _ ?_
        assumption
      | some b =>
        have b0Q : Hid (Blk (w.alloc (.cells (madeCells #[.int .u8 0] nq) 5)) w.heap.size (List.replicate nq (.int .u8 0)) 5) := blk_made w nq; have k0Q : Hid (Kp [] w (w.alloc (.cells (madeCells #[.int .u8 0] nq) 5))) := (Kp.refl _ _).alloc _; have SQ := hide ((unhide HQQ).keep (unhide k0Q))
        go_upto_region 17 with fail
        go_upto_region 18 with (refine wpList_copy_blk rfl (.tmp 92) (.tmp 93) 23 23 rfl 5 Try.underlying23 info5s (some ⟨w.heap.size, 0, none⟩) (some b) nq nq nq cq rfl rfl w.heap.size _ 5 (unhide b0Q) (qs.map (Value.int .u8)) (unhide eQ) (fun _ => rfl) (unhide SQ) (unhide fQ) (one_of qs) ?_; intro w2 hB hK hs; have B2 : Hid (Blk w2 w.heap.size (qs.map (Value.int .u8)) 5) := (by rw [unhide dQ] at hB; exact hB); have K2 : Hid (Kp [] w w2) := (unhide k0Q).then hK (fun i hi => by simp at hi; right; omega); clear hB hK hs)
        go_upto_region 19 with fail
        refine ringMid _ _ _ _ _ _ _ _ _ _ _ _ bs ps qs w w2 _ _ _ _ _ _ _ _ _ _ _ _ _ _ _ _ _ _ _ _ _ _ _ _ _ _ _ _ _ _ _ _ _ _ _ _ _ _ _ _ _ _ _ _ _ _ _ _ _ _ _ _ _ _ _ _ _ _ _ _ _ _ _ _ _ _ _ _ _ _ _ _ _ _ _ _ _ _ _ _ _ _ _ _ _ _ _ _ _ _ _ _ _ _ _ _ _ _ _ _ _ _ _ _ _ _ _ _ _ _ _ _ _ _ _ _ _ _ _ _ _ _ _ _ _ _ _ _ _ _ _ _ _ _ _ _ _ _ _ _ _ ((unhide HBB).keep (unhide K2)) ((unhide HPP).keep (unhide K2)) ((unhide B2).src) (unhide LB) (unhide LP) (unhide LQ) (unhide NB) (fun _ => unhide NP') (fun h => by cases h) (by have := unhide NP'; omega) (Nat.le_refl _) (fun a h => by cases h) (fun a h => by cases h; exact (unhide B2).lt) t1 t2 t3 t4 (unhide H0) hm (unhide HWT) (unhide K2).toBelow _ ?_
        assumption
    | some a =>
      have b0P : Hid (Blk (w.alloc (.cells (madeCells #[.int .u8 0] np) 5)) w.heap.size (List.replicate np (.int .u8 0)) 5) := blk_made w np; have k0P : Hid (Kp [] w (w.alloc (.cells (madeCells #[.int .u8 0] np) 5))) := (Kp.refl _ _).alloc _; have SP := hide ((unhide HPP).keep (unhide k0P))
      cases q with
      | none =>
        have NQ' : Hid (nq = 0 ∧ cq = 0) := (unhide NQ) rfl
        clear NQ
        go_upto_region 13 with fail
        go_upto_region 14 with (refine wpList_copy_blk rfl (.tmp 83) (.tmp 84) 23 23 rfl 5 Try.underlying23 info5s (some ⟨w.heap.size, 0, none⟩) (some a) np np np cp rfl rfl w.heap.size _ 5 (unhide b0P) (ps.map (Value.int .u8)) (unhide eP) (fun _ => rfl) (unhide SP) (unhide fP) (one_of ps) ?_; intro w1 hB hK hs; have B1 : Hid (Blk w1 w.heap.size (ps.map (Value.int .u8)) 5) := (by rw [unhide dP] at hB; exact hB); have K1 : Hid (Kp [] w w1) := (unhide k0P).then hK (fun i hi => by simp at hi; right; omega); clear hB hK hs)
        go_upto_region 19 with fail
        refine ringMid _ _ _ _ _ _ _ _ _ _ _ _ bs ps qs w w1 _ _ _ _ _ _ _ _ _ _ _ _ _ _ _ _ _ _ _ _ _ _ _ _ _ _ _ _ _ _ _ _ _ _ _ _ _ _ _ _ _ _ _ _ _ _ _ _ _ _ _ _ _ _ _ _ _ _ _ _ _ _ _ _ _ _ _ _ _ _ _ _ _ _ _ _ _ _ _ _ _ _ _ _ _ _ _ _ _ _ _ _ _ _ _ _ _ _ _ _ _ _ _ _ _ _ _ _ _ _ _ _ _ _ _ _ _ _ _ _ _ _ _ _ _ _ _ _ _ _ _ _ _ _ _ _ _ _ _ _ _ ((unhide HBB).keep (unhide K1)) ((unhide B1).src) ((unhide HQQ).keep (unhide K1)) (unhide LB) (unhide LP) (unhide LQ) (unhide NB) (fun h => by cases h) (fun _ => unhide NQ') (Nat.le_refl _) (by have := unhide NQ'; omega) (fun a h => by cases h; exact (unhide B1).lt) (fun a h => by cases h) t1 t2 t3 t4 (unhide H0) hm (unhide HWT) (unhide K1).toBelow _ ?_
        assumption
      | some b =>
        go_upto_region 13 with fail
        go_upto_region 14 with (refine wpList_copy_blk rfl (.tmp 83) (.tmp 84) 23 23 rfl 5 Try.underlying23 info5s (some ⟨w.heap.size, 0, none⟩) (some a) np np np cp rfl rfl w.heap.size _ 5 (unhide b0P) (ps.map (Value.int .u8)) (unhide eP) (fun _ => rfl) (unhide SP) (unhide fP) (one_of ps) ?_; intro w1 hB hK hs; have B1 : Hid (Blk w1 w.heap.size (ps.map (Value.int .u8)) 5) := (by rw [unhide dP] at hB; exact hB); have K1 : Hid (Kp [] w w1) := (unhide k0P).then hK (fun i hi => by simp at hi; right; omega); clear hB hK hs; have b0Q : Hid (Blk (w1.alloc (.cells (madeCells #[.int .u8 0] nq) 5)) w1.heap.size (List.replicate nq (.int .u8 0)) 5) := blk_made w1 nq; have k0Q : Hid (Kp [] w1 (w1.alloc (.cells (madeCells #[.int .u8 0] nq) 5))) := (Kp.refl _ _).alloc _; have SQ := hide (((unhide HQQ).keep (unhide K1)).keep (unhide k0Q)))
        go_upto_region 17 with fail
        go_upto_region 18 with (refine wpList_copy_blk rfl (.tmp 92) (.tmp 93) 23 23 rfl 5 Try.underlying23 info5s (some ⟨w1.heap.size, 0, none⟩) (some b) nq nq nq cq rfl rfl w1.heap.size _ 5 (unhide b0Q) (qs.map (Value.int .u8)) (unhide eQ) (fun _ => rfl) (unhide SQ) (unhide fQ) (one_of qs) ?_; intro w2 hB hK hs; have B2 : Hid (Blk w2 w1.heap.size (qs.map (Value.int .u8)) 5) := (by rw [unhide dQ] at hB; exact hB); have K2 : Hid (Kp [] w1 w2) := (unhide k0Q).then hK (fun i hi => by simp at hi; right; omega); clear hB hK hs)
        go_upto_region 19 with fail
        refine ringMid _ _ _ _ _ _ _ _ _ _ _ _ bs ps qs w w2 _ _ _ _ _ _ _ _ _ _ _ _ _ _ _ _ _ _ _ _ _ _ _ _ _ _ _ _ _ _ _ _ _ _ _ _ _ _ _ _ _ _ _ _ _ _ _ _ _ _ _ _ _ _ _ _ _ _ _ _ _ _ _ _ _ _ _ _ _ _ _ _ _ _ _ _ _ _ _ _ _ _ _ _ _ _ _ _ _ _ _ _ _ _ _ _ _ _ _ _ _ _ _ _ _ _ _ _ _ _ _ _ _ _ _ _ _ _ _ _ _ _ _ _ _ _ _ _ _ _ _ _ _ _ _ _ _ _ _ _ _ ((unhide HBB).keep ((unhide K1).trans (unhide K2))) (((unhide K2).blk (unhide B1) (by simp)).src) ((unhide B2).src) (unhide LB) (unhide LP) (unhide LQ) (unhide NB) (fun h => by cases h) (fun h => by cases h) (Nat.le_refl _) (Nat.le_refl _) (fun a h => by cases h; exact ((unhide K2).blk (unhide B1) (by simp)).lt) (fun a h => by cases h; exact (unhide B2).lt) t1 t2 t3 t4 (unhide H0) hm (unhide HWT) ((unhide K1).trans (unhide K2)).toBelow _ ?_
        assumption
  · have hlt' : ¬ (nb : Int) < (sz : Int) := by omega
    cases p with
    | none =>
      have NP' : Hid (np = 0 ∧ cp = 0) := (unhide NP) rfl
      clear NP
      cases q with
      | none =>
        have NQ' : Hid (nq = 0 ∧ cq = 0) := (unhide NQ) rfl
        clear NQ
        go_upto_region 19 with fail
        refine ringMid _ _ _ _ _ _ _ _ _ _ _ _ bs ps qs w w _ _ _ _ _ _ _ _ _ _ _ _ _ _ _ _ _ _ _ _ _ _ _ _ _ _ _ _ _ _ _ _ _ _ _ _ _ _ _ _ _ _ _ _ _ _ _ _ _ _ _ _ _ _ _ _ _ _ _ _ _ _ _ _ _ _ _ _ _ _ _ _ _ _ _ _ _ _ _ _ _ _ _ _ _ _ _ _ _ _ _ _ _ _ _ _ _ _ _ _ _ _ _ _ _ _ _ _ _ _ _ _ _ _ _ _ _ _ _ _ _ _ _ _ _ _ _ _ _ _ _ _ _ _ _ _ _ _ _ _ _ (unhide HBB) (unhide HPP) (unhide HQQ) (unhide LB) (unhide LP) (unhide LQ) (unhide NB) (fun _ => unhide NP') (fun _ => unhide NQ') (by have := unhide NP'; omega) (by have := unhide NQ'; omega) (fun a h => by cases h) (fun a h => by cases h) t1 t2 t3 t4 (unhide H0) hm (unhide HWT) (Below.refl _ _) _ ?_
        assumption
      | some b =>
        have b0Q : Hid (Blk (w.alloc (.cells (madeCells #[.int .u8 0] nq) 5)) w.heap.size (List.replicate nq (.int .u8 0)) 5) := blk_made w nq; have k0Q : Hid (Kp [] w (w.alloc (.cells (madeCells #[.int .u8 0] nq) 5))) := (Kp.refl _ _).alloc _; have SQ := hide ((unhide HQQ).keep (unhide k0Q))
        go_upto_region 17 with fail
        go_upto_region 18 with (refine wpList_copy_blk rfl (.tmp 92) (.tmp 93) 23 23 rfl 5 Try.underlying23 info5s (some ⟨w.heap.size, 0, none⟩) (some b) nq nq nq cq rfl rfl w.heap.size _ 5 (unhide b0Q) (qs.map (Value.int .u8)) (unhide eQ) (fun _ => rfl) (unhide SQ) (unhide fQ) (one_of qs) ?_; intro w2 hB hK hs; have B2 : Hid (Blk w2 w.heap.size (qs.map (Value.int .u8)) 5) := (by rw [unhide dQ] at hB; exact hB); have K2 : Hid (Kp [] w w2) := (unhide k0Q).then hK (fun i hi => by simp at hi; right; omega); clear hB hK hs)
        go_upto_region 19 with fail
        refine ringMid _ _ _ _ _ _ _ _ _ _ _ _ bs ps qs w w2 _ _ _ _ _ _ _ _ _ _ _ _ _ _ _ _ _ _ _ _ _ _ _ _ _ _ _ _ _ _ _ _ _ _ _ _ _ _ _ _ _ _ _ _ _ _ _ _ _ _ _ _ _ _ _ _ _ _ _ _ _ _ _ _ _ _ _ _ _ _ _ _ _ _ _ _ _ _ _ _ _ _ _ _ _ _ _ _ _ _ _ _ _ _ _ _ _ _ _ _ _ _ _ _ _ _ _ _ _ _ _ _ _ _ _ _ _ _ _ _ _ _ _ _ _ _ _ _ _ _ _ _ _ _ _ _ _ _ _ _ _ ((unhide HBB).keep (unhide K2)) ((unhide HPP).keep (unhide K2)) ((unhide B2).src) (unhide LB) (unhide LP) (unhide LQ) (unhide NB) (fun _ => unhide NP') (fun h => by cases h) (by have := unhide NP'; omega) (Nat.le_refl _) (fun a h => by cases h) (fun a h => by cases h; exact (unhide B2).lt) t1 t2 t3 t4 (unhide H0) hm (unhide HWT) (unhide K2).toBelow _ ?_
        assumption
    | some a =>
      have b0P : Hid (Blk (w.alloc (.cells (madeCells #[.int .u8 0] np) 5)) w.heap.size (List.replicate np (.int .u8 0)) 5) := blk_made w np; have k0P : Hid (Kp [] w (w.alloc (.cells (madeCells #[.int .u8 0] np) 5))) := (Kp.refl _ _).alloc _; have SP := hide ((unhide HPP).keep (unhide k0P))
      cases q with
      | none =>
        have NQ' : Hid (nq = 0 ∧ cq = 0) := (unhide NQ) rfl
        clear NQ
        go_upto_region 13 with fail
        go_upto_region 14 with (refine wpList_copy_blk rfl (.tmp 83) (.tmp 84) 23 23 rfl 5 Try.underlying23 info5s (some ⟨w.heap.size, 0, none⟩) (some a) np np np cp rfl rfl w.heap.size _ 5 (unhide b0P) (ps.map (Value.int .u8)) (unhide eP) (fun _ => rfl) (unhide SP) (unhide fP) (one_of ps) ?_; intro w1 hB hK hs; have B1 : Hid (Blk w1 w.heap.size (ps.map (Value.int .u8)) 5) := (by rw [unhide dP] at hB; exact hB); have K1 : Hid (Kp [] w w1) := (unhide k0P).then hK (fun i hi => by simp at hi; right; omega); clear hB hK hs)
        go_upto_region 19 with fail
        refine ringMid _ _ _ _ _ _ _ _ _ _ _ _ bs ps qs w w1 _ _ _ _ _ _ _ _ _ _ _ _ _ _ _ _ _ _ _ _ _ _ _ _ _ _ _ _ _ _ _ _ _ _ _ _ _ _ _ _ _ _ _ _ _ _ _ _ _ _ _ _ _ _ _ _ _ _ _ _ _ _ _ _ _ _ _ _ _ _ _ _ _ _ _ _ _ _ _ _ _ _ _ _ _ _ _ _ _ _ _ _ _ _ _ _ _ _ _ _ _ _ _ _ _ _ _ _ _ _ _ _ _ _ _ _ _ _ _ _ _ _ _ _ _ _ _ _ _ _ _ _ _ _ _ _ _ _ _ _ _ ((unhide HBB).keep (unhide K1)) ((unhide B1).src) ((unhide HQQ).keep (unhide K1)) (unhide LB) (unhide LP) (unhide LQ) (unhide NB) (fun h => by cases h) (fun _ => unhide NQ') (Nat.le_refl _) (by have := unhide NQ'; omega) (fun a h => by cases h; exact (unhide B1).lt) (fun a h => by cases h) t1 t2 t3 t4 (unhide H0) hm (unhide HWT) (unhide K1).toBelow _ ?_
        assumption
      | some b =>
        go_upto_region 13 with fail
        go_upto_region 14 with (refine wpList_copy_blk rfl (.tmp 83) (.tmp 84) 23 23 rfl 5 Try.underlying23 info5s (some ⟨w.heap.size, 0, none⟩) (some a) np np np cp rfl rfl w.heap.size _ 5 (unhide b0P) (ps.map (Value.int .u8)) (unhide eP) (fun _ => rfl) (unhide SP) (unhide fP) (one_of ps) ?_; intro w1 hB hK hs; have B1 : Hid (Blk w1 w.heap.size (ps.map (Value.int .u8)) 5) := (by rw [unhide dP] at hB; exact hB); have K1 : Hid (Kp [] w w1) := (unhide k0P).then hK (fun i hi => by simp at hi; right; omega); clear hB hK hs; have b0Q : Hid (Blk (w1.alloc (.cells (madeCells #[.int .u8 0] nq) 5)) w1.heap.size (List.replicate nq (.int .u8 0)) 5) := blk_made w1 nq; have k0Q : Hid (Kp [] w1 (w1.alloc (.cells (madeCells #[.int .u8 0] nq) 5))) := (Kp.refl _ _).alloc _; have SQ := hide (((unhide HQQ).keep (unhide K1)).keep (unhide k0Q)))
        go_upto_region 17 with fail
        go_upto_region 18 with (refine wpList_copy_blk rfl (.tmp 92) (.tmp 93) 23 23 rfl 5 Try.underlying23 info5s (some ⟨w1.heap.size, 0, none⟩) (some b) nq nq nq cq rfl rfl w1.heap.size _ 5 (unhide b0Q) (qs.map (Value.int .u8)) (unhide eQ) (fun _ => rfl) (unhide SQ) (unhide fQ) (one_of qs) ?_; intro w2 hB hK hs; have B2 : Hid (Blk w2 w1.heap.size (qs.map (Value.int .u8)) 5) := (by rw [unhide dQ] at hB; exact hB); have K2 : Hid (Kp [] w1 w2) := (unhide k0Q).then hK (fun i hi => by simp at hi; right; omega); clear hB hK hs)
        go_upto_region 19 with fail
        refine ringMid _ _ _ _ _ _ _ _ _ _ _ _ bs ps qs w w2 _ _ _ _ _ _ _ _ _ _ _ _ _ _ _ _ _ _ _ _ _ _ _ _ _ _ _ _ _ _ _ _ _ _ _ _ _ _ _ _ _ _ _ _ _ _ _ _ _ _ _ _ _ _ _ _ _ _ _ _ _ _ _ _ _ _ _ _ _ _ _ _ _ _ _ _ _ _ _ _ _ _ _ _ _ _ _ _ _ _ _ _ _ _ _ _ _ _ _ _ _ _ _ _ _ _ _ _ _ _ _ _ _ _ _ _ _ _ _ _ _ _ _ _ _ _ _ _ _ _ _ _ _ _ _ _ _ _ _ _ _ ((unhide HBB).keep ((unhide K1).trans (unhide K2))) (((unhide K2).blk (unhide B1) (by simp)).src) ((unhide B2).src) (unhide LB) (unhide LP) (unhide LQ) (unhide NB) (fun h => by cases h) (fun h => by cases h) (Nat.le_refl _) (Nat.le_refl _) (fun a h => by cases h; exact ((unhide K2).blk (unhide B1) (by simp)).lt) (fun a h => by cases h; exact (unhide B2).lt) t1 t2 t3 t4 (unhide H0) hm (unhide HWT) ((unhide K1).trans (unhide K2)).toBelow _ ?_
        assumption
end Go.Proofs.Qxb6601367a
