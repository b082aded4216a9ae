/-
  FnApplyFastPathAgreesWithStated (10): THE WALK.
-/
import Derived.Test.Qxb6001672aZZ
import Derived.Test.Qxb6001672aAgree
import Derived.Test.Qxb6001672aAdd
set_option linter.unusedSimpArgs false
set_option linter.unusedVariables false
namespace Go.Proofs.Qxb6001672a
open Go.RowKit

set_option maxRecDepth 100000 in
theorem zzB45 (o : Bool) (p1 p2 : Option Addr) (n1 n2 c1 c2 : Nat) (w : World) : Calls Try.prog 45 #[.bool o, .slice p1 n1 c1, .slice p2 n2 c2] w (SomeBool w) := by
  by_cases h1 : n1 ≤ 1048576
  · by_cases h2 : n2 ≤ 1048576
    · by_cases h3 : n1 + n2 ≤ 1048576
      · go_enter Try.func45, Try.ntmps45; go_wp2; go_ret; exact ⟨rfl, _, rfl⟩
      · go_enter Try.func45, Try.ntmps45; go_wp2; go_ret; exact ⟨rfl, _, rfl⟩
    · go_enter Try.func45, Try.ntmps45; go_wp2; go_ret; exact ⟨rfl, _, rfl⟩
  · go_enter Try.func45, Try.ntmps45; go_wp2; go_ret; exact ⟨rfl, _, rfl⟩

theorem eff_zero (pl : Bool) (m : Nat) : eff pl (List.replicate m 0) = List.replicate m 0 := by cases pl <;> simp [eff]
theorem getD_zero (m i : Nat) : (List.replicate m (0 : Int)).getD i 0 = 0 := by
  rw [List.getD_eq_getElem?_getD, List.getElem?_replicate]
  split <;> simp
theorem jn_comm (d a b : Int) : jn d a b = jn d b a := by
  unfold jn
  split
  · exact Int.max_comm _ _
  · exact Int.min_comm _ _
theorem rN_comm (d a b : Int) : rN d a 0 b 0 = rN d b 0 a 0 := by
  unfold rN
  rw [jn_comm]
theorem NL_comm (d : Int) (m : Nat) (xa xb : List Int) : NL d m xb (List.replicate m 0) xa (List.replicate m 0) = NL d m xa (List.replicate m 0) xb (List.replicate m 0) := by
  unfold NL
  apply List.map_congr_left
  intro i _
  rw [getD_zero, rN_comm]
theorem tru_zero (a : Int) : tru a 0 = 0 ∨ tru a 0 = 2 := by
  unfold tru
  rw [if_pos rfl]
  by_cases h : a = 0 <;> simp [h]
theorem rS_zero (d a b : Int) : rS d a 0 b 0 = 0 := by
  have h1 : tru a 0 = 0 ∨ tru a 0 = 2 := tru_zero a
  have h2 : tru b 0 = 0 ∨ tru b 0 = 2 := tru_zero b
  have h3 : ix 0 0 = false := by decide
  unfold rS
  rw [h3]
  have : jn d (tru a 0) (tru b 0) ≠ 1 := by
    unfold jn
    rcases h1 with h1 | h1 <;> rcases h2 with h2 | h2 <;> rw [h1, h2] <;> split <;> decide
  unfold tst
  simp [this]
theorem SL_zero (d : Int) (m : Nat) (xa xb : List Int) : SL d m xa (List.replicate m 0) xb (List.replicate m 0) = List.replicate m 0 := by
  unfold SL
  have h : ∀ i ∈ List.range m, rS d (xa.getD i 0) ((List.replicate m (0 : Int)).getD i 0) (xb.getD i 0) ((List.replicate m (0 : Int)).getD i 0) = (fun _ => (0 : Int)) i := fun i _ => by
    rw [getD_zero, rS_zero]
  rw [List.map_congr_left h, List.map_const', List.length_range]


set_option maxRecDepth 1000000 in
set_option maxHeartbeats 4000000 in
theorem fast10 (o : Bool) (p1 p2 : Option Addr) (n1 n2 c1 c2 : Nat) (xa xb : List Int) (w : World)
    (h1 : Src w p1 (xa.map (Value.int .i64))) (h2 : Src w p2 (xb.map (Value.int .i64))) (l1 : xa.length = n1) (l2 : xb.length = n2) (z1 : p1 = none → n1 = 0 ∧ c1 = 0) (z2 : p2 = none → n2 = 0 ∧ c2 = 0)
    (ra : ∀ z ∈ xa, -9223372036854775808 ≤ z ∧ z ≤ 9223372036854775807) (rb : ∀ z ∈ xb, -9223372036854775808 ≤ z ∧ z ≤ 9223372036854775807) :
    Calls Try.prog 10 #[.bool o, .slice p1 n1 c1, .slice p2 n2 c2] w (RetTrue w) := by
  have HZ := hide (zzB45 o p1 p2 n1 n2 c1 c2 w)
  obtain ⟨d, hd⟩ : ∃ d : Int, d = if o then 2 else 0 := ⟨_, rfl⟩
  have D : Hid (∀ w, Calls Try.prog 42 #[.bool o] w (Pure w (.int .i8 d))) := fun w => hd ▸ decisive42 o w
  have H1 := hide h1
  have H2 := hide h2
  have Z1 := hide z1
  have Z2 := hide z2
  have RA := hide ra
  have RB := hide rb
  clear h1 h2 z1 z2 ra rb hd
  go_enter Try.func10, Try.ntmps10
  go_wp2_with fail
  refine (unhide HZ).mono ?_
  clear HZ
  rintro e w' ⟨hw, b, rfl⟩
  have hw := hw.symm
  subst hw
  simp only []
  cases b
  · go_wp2
    go_ret
    exact ⟨rfl, Below.refl _ _⟩
  by_cases hb : n1 ≤ 65536 ∧ n2 ≤ 65536
  case neg =>
    go_wp2
    all_goals first
      | (go_ret; exact ⟨rfl, Below.refl _ _⟩)
      | (exfalso; omega)
  obtain ⟨s1, s2⟩ := hb
  by_cases ht : 8 * n1 + 8 * n2 ≤ 1048576
  case neg =>
    go_wp2
    all_goals first
      | (go_ret; exact ⟨rfl, Below.refl _ _⟩)
      | (exfalso; omega)
  by_cases he : n2 = n1
  case neg =>
    have he' : (n2 == n1) = false := by simp [he]
    go_wp2
    all_goals first
      | (go_ret; exact ⟨rfl, Below.refl _ _⟩)
      | (exfalso; omega)
  subst he
  obtain ⟨m, hm⟩ : ∃ m, m = n2 := ⟨_, rfl⟩
  subst hm
  have C1 : Hid (Calls Try.prog 39 #[.slice p1 m c1] w (Cl w m (xa.map (Value.int .i64)) 2)) := by
    have := clo39 p1 c1 xa w (by omega) (unhide H1) (by rw [l1]; exact unhide Z1)
    rwa [l1] at this
  have C2 : Hid (∀ v, Kp [] w v → Calls Try.prog 39 #[.slice p2 m c2] v (Cl v m (xb.map (Value.int .i64)) 2)) := fun v hv => by
    have := clo39 p2 c2 xb v (by omega) ((unhide H2).keep hv) (by rw [l2]; exact unhide Z2)
    rwa [l2] at this
  have hmk := fun w => run_make_row' (P := Try.prog) 28 5 (.int .u8 0) 1 Try.underlying28 cinfo5 rfl .i64 .i64 m (by omega) (by omega) w
  go_wp2_with fail
  refine (unhide C1).mono ?_
  rintro e wa ⟨q1, rfl, S1, KA, _⟩
  simp only []
  go_wp2_with fail
  refine ((unhide C2) _ KA).mono ?_
  rintro e wb ⟨q2, rfl, S2, KB, _⟩
  simp only []
  go_wp2_with fail
  refine ((unhide D) _).mono ?_
  rintro e w9 ⟨rfl, rfl⟩
  simp only []
  go_wp2_with fail
  obtain ⟨f1, f2, f3⟩ := two_alloc w9 (madeCells #[.int .u8 0] m) (madeCells #[.int .u8 0] m) 5 5
  rw [made_list] at f1 f2
  have kc := Below.kp f3
  have zz : List.replicate m (Value.int .u8 0) = (List.replicate m 0).map (Value.int .u8) := by simp
  rw [zz] at f1 f2
  generalize hwc : (w9.alloc (.cells (madeCells #[.int .u8 0] m) 5)).alloc (.cells (madeCells #[.int .u8 0] m) 5) = wc at *
  have SA : Src wc q1 (xa.map (Value.int .i64)) := (S1.src.keep KB).keep kc
  have SB : Src wc q2 (xb.map (Value.int .i64)) := S2.src.keep kc
  have ZA : Src wc (some ⟨w9.heap.size, 0, none⟩) ((List.replicate m 0).map (Value.int .u8)) := (Sl.src (g := w9.heap.size) (fun _ => ⟨rfl, f1⟩))
  have ZB : Src wc (some ⟨w9.heap.size + 1, 0, none⟩) ((List.replicate m 0).map (Value.int .u8)) := (Sl.src (g := w9.heap.size + 1) (fun _ => ⟨rfl, f2⟩))
  have G1 : Hid (∀ v, Kp [] wc v → ∀ ap bp, Calls Try.prog 41 #[.int .i8 d, .slice q1 m m, .slice (some ⟨w9.heap.size, 0, none⟩) m m, .bool ap, .slice q2 m m, .slice (some ⟨w9.heap.size + 1, 0, none⟩) m m, .bool bp] v (ZO v d m xa (List.replicate m 0) ap xb (List.replicate m 0) bp)) := fun v hv ap bp =>
    zz41 d m q1 _ q2 _ xa (List.replicate m 0) xb (List.replicate m 0) ap bp v (SA.keep hv) (SB.keep hv) (ZA.keep hv) (ZB.keep hv) l1 l2 (by simp) (by simp) (by simp) (by simp) (unhide RA) (unhide RB) s1
  have G2 : Hid (∀ v, Kp [] wc v → ∀ ap bp, Calls Try.prog 41 #[.int .i8 d, .slice q2 m m, .slice (some ⟨w9.heap.size + 1, 0, none⟩) m m, .bool ap, .slice q1 m m, .slice (some ⟨w9.heap.size, 0, none⟩) m m, .bool bp] v (ZO v d m xb (List.replicate m 0) ap xa (List.replicate m 0) bp)) := fun v hv ap bp =>
    zz41 d m q2 _ q1 _ xb (List.replicate m 0) xa (List.replicate m 0) ap bp v (SB.keep hv) (SA.keep hv) (ZB.keep hv) (ZA.keep hv) l2 l1 (by simp) (by simp) (by simp) (by simp) (unhide RB) (unhide RA) s1
  have KW : Hid (Kp [] w wc) := (KA.trans KB).trans kc
  clear SA SB ZA ZB f1 f2 f3 kc KA KB S1 S2 C1 C2 H1 H2 Z1 Z2 RA RB hmk zz hwc
  refine ((unhide G1) _ (Kp.refl _ _) true true).mono ?_
  rintro e v1 ⟨a1, b1, g1, h1, t1, rfl, A1, _, B1, _, lt1, ht1, kk1⟩
  simp only []
  have K1 := Kp.trans (Kp.refl _ _) kk1
  have A1 := hide A1.src
  have B1 := hide B1.src
  have ht1 := hide ht1
  go_wp2_with fail
  refine ((unhide G1) _ K1 false false).mono ?_
  rintro e v2 ⟨a2, b2, g2, h2, t2, rfl, A2, _, B2, _, lt2, ht2, kk2⟩
  simp only []
  have K2 := Kp.trans K1 kk2
  have A2 := hide A2.src
  have B2 := hide B2.src
  have ht2 := hide ht2
  go_wp2_with fail
  refine ((unhide G1) _ K2 true false).mono ?_
  rintro e v3 ⟨a3, b3, g3, h3, t3, rfl, A3, _, B3, _, lt3, ht3, kk3⟩
  simp only []
  have K3 := Kp.trans K2 kk3
  have A3 := hide A3.src
  have B3 := hide B3.src
  have ht3 := hide ht3
  go_wp2_with fail
  refine ((unhide G2) _ K3 true true).mono ?_
  rintro e v4 ⟨a4, b4, g4, h4, t4, rfl, A4, _, B4, _, lt4, ht4, kk4⟩
  simp only []
  have K4 := Kp.trans K3 kk4
  have A4 := hide A4.src
  have B4 := hide B4.src
  have ht4 := hide ht4
  go_wp2_with fail
  refine ((unhide G2) _ K4 false false).mono ?_
  rintro e v5 ⟨a5, b5, g5, h5, t5, rfl, A5, _, B5, _, lt5, ht5, kk5⟩
  simp only []
  have K5 := Kp.trans K4 kk5
  have A5 := hide A5.src
  have B5 := hide B5.src
  have ht5 := hide ht5
  go_wp2_with fail
  refine ((unhide G2) _ K5 false true).mono ?_
  rintro e v6 ⟨a6, b6, g6, h6, t6, rfl, A6, _, B6, _, lt6, ht6, kk6⟩
  simp only []
  have K6 := Kp.trans K5 kk6
  have A6 := hide A6.src
  have B6 := hide B6.src
  have ht6 := hide ht6

  have M5 : Kp [] v5 v6 := kk6
  have M4 : Kp [] v4 v6 := kk5.trans M5
  have M3 : Kp [] v3 v6 := kk4.trans M4
  have M2 : Kp [] v2 v6 := kk3.trans M3
  have M1 : Kp [] v1 v6 := kk2.trans M2
  have E1 : Src v6 a1 ((NL d m xa (List.replicate m 0) xb (List.replicate m 0)).map (Value.int .i64)) := by
    have := ((unhide A1).keep M1)
    simp only [eff_zero] at this
    exact this
  have E2 : Src v6 a2 ((NL d m xa (List.replicate m 0) xb (List.replicate m 0)).map (Value.int .i64)) := by
    have := ((unhide A2).keep M2)
    simp only [eff_zero] at this
    exact this
  have F2 : Src v6 b2 ((List.replicate m 0).map (Value.int .u8)) := by
    have := ((unhide B2).keep M2)
    rw [(unhide ht2) rfl] at this
    simp only [eff_zero] at this
    rw [SL_zero] at this
    exact this
  have E3 : Src v6 a3 ((NL d m xa (List.replicate m 0) xb (List.replicate m 0)).map (Value.int .i64)) := by
    have := ((unhide A3).keep M3)
    simp only [eff_zero] at this
    exact this
  have F3 : Src v6 b3 ((List.replicate m 0).map (Value.int .u8)) := by
    have := ((unhide B3).keep M3)
    rw [(unhide ht3) rfl] at this
    simp only [eff_zero] at this
    rw [SL_zero] at this
    exact this
  have E4 : Src v6 a4 ((NL d m xa (List.replicate m 0) xb (List.replicate m 0)).map (Value.int .i64)) := by
    have := ((unhide A4).keep M4)
    simp only [eff_zero] at this
    rw [NL_comm] at this
    exact this
  have E5 : Src v6 a5 ((NL d m xa (List.replicate m 0) xb (List.replicate m 0)).map (Value.int .i64)) := by
    have := ((unhide A5).keep M5)
    simp only [eff_zero] at this
    rw [NL_comm] at this
    exact this
  have F5 : Src v6 b5 ((List.replicate m 0).map (Value.int .u8)) := by
    have := ((unhide B5).keep M5)
    rw [(unhide ht5) rfl] at this
    simp only [eff_zero] at this
    rw [SL_zero] at this
    exact this
  have E6 : Src v6 a6 ((NL d m xa (List.replicate m 0) xb (List.replicate m 0)).map (Value.int .i64)) := by
    have := (unhide A6)
    simp only [eff_zero] at this
    rw [NL_comm] at this
    exact this
  have F6 : Src v6 b6 ((List.replicate m 0).map (Value.int .u8)) := by
    have := (unhide B6)
    rw [(unhide ht6) rfl] at this
    simp only [eff_zero] at this
    rw [SL_zero] at this
    exact this

  have lN : (NL d m xa (List.replicate m 0) xb (List.replicate m 0)).length = m := by simp [NL]
  have HB := Kp.toBelow ((unhide KW).trans K6)
  obtain ⟨L, hL⟩ : ∃ L, L = NL d m xa (List.replicate m 0) xb (List.replicate m 0) := ⟨_, rfl⟩
  rw [← hL] at lN E1 E2 E3 E4 E5 E6
  have hl := lN
  have H1 := hide E1
  have H2 := hide E2
  have H3 := hide E3
  have H4 := hide E4
  have H5 := hide E5
  have H6 := hide E6
  have J2 := hide F2
  have J3 := hide F3
  have J5 := hide F5
  have J6 := hide F6
  have HB := hide HB
  clear E1 E2 E3 E4 E5 E6 F2 F3 F5 F6 M1 M2 M3 M4 M5 K1 K2 K3 K4 K5 K6 kk1 kk2 kk3 kk4 kk5 kk6 ht1 ht2 ht3 ht4 ht5 ht6 hL KW G1 G2 D
  go_wp2
  go_loopw [29] (fun i wr => ∃ k : Nat, k ≤ m ∧ i = .int .i64 k ∧ Kp [] v6 wr) (fun i _ => m - (intOf i).toNat)
  case atStart => exact ⟨0, Nat.zero_le _, rfl, Kp.refl _ _⟩
  case round =>
    obtain ⟨k, hk, rfl, hKr⟩ := hrel
    by_cases hlt : k < m
    · obtain ⟨x, hx⟩ := getElem?_lt_some L k (by omega)
      obtain ⟨b1, o1, e1, hb1, hc1⟩ := ((unhide H1).keep hKr) (by simp [hl]; omega)
      subst e1
      have c1 : wr.cell? ⟨b1, o1 + k, none⟩ = some (.int .i64 x) := hc1 _ _ (by simp [hx])
      obtain ⟨b2, o2, e2, hb2, hc2⟩ := ((unhide H2).keep hKr) (by simp [hl]; omega)
      subst e2
      have c2 : wr.cell? ⟨b2, o2 + k, none⟩ = some (.int .i64 x) := hc2 _ _ (by simp [hx])
      obtain ⟨b3, o3, e3, hb3, hc3⟩ := ((unhide H3).keep hKr) (by simp [hl]; omega)
      subst e3
      have c3 : wr.cell? ⟨b3, o3 + k, none⟩ = some (.int .i64 x) := hc3 _ _ (by simp [hx])
      obtain ⟨b4, o4, e4, hb4, hc4⟩ := ((unhide H4).keep hKr) (by simp [hl]; omega)
      subst e4
      have c4 : wr.cell? ⟨b4, o4 + k, none⟩ = some (.int .i64 x) := hc4 _ _ (by simp [hx])
      obtain ⟨b5, o5, e5, hb5, hc5⟩ := ((unhide H5).keep hKr) (by simp [hl]; omega)
      subst e5
      have c5 : wr.cell? ⟨b5, o5 + k, none⟩ = some (.int .i64 x) := hc5 _ _ (by simp [hx])
      obtain ⟨b6, o6, e6, hb6, hc6⟩ := ((unhide H6).keep hKr) (by simp [hl]; omega)
      subst e6
      have c6 : wr.cell? ⟨b6, o6 + k, none⟩ = some (.int .i64 x) := hc6 _ _ (by simp [hx])
      obtain ⟨d2, f2, e2, hb2, hd2⟩ := ((unhide J2).keep hKr) (by simp; omega)
      subst e2
      have t2 : wr.cell? ⟨d2, f2 + k, none⟩ = some (.int .u8 0) := hd2 _ _ (by simp [hlt])
      obtain ⟨d3, f3, e3, hb3, hd3⟩ := ((unhide J3).keep hKr) (by simp; omega)
      subst e3
      have t3 : wr.cell? ⟨d3, f3 + k, none⟩ = some (.int .u8 0) := hd3 _ _ (by simp [hlt])
      obtain ⟨d5, f5, e5, hb5, hd5⟩ := ((unhide J5).keep hKr) (by simp; omega)
      subst e5
      have t5 : wr.cell? ⟨d5, f5 + k, none⟩ = some (.int .u8 0) := hd5 _ _ (by simp [hlt])
      obtain ⟨d6, f6, e6, hb6, hd6⟩ := ((unhide J6).keep hKr) (by simp; omega)
      subst e6
      have t6 : wr.cell? ⟨d6, f6 + k, none⟩ = some (.int .u8 0) := hd6 _ _ (by simp [hlt])
      have i1 : (k : Int) < (m : Int) := by omega
      have hx1 : (x == x) = true := by simp
      have hx2 : (x != x) = false := by simp
      have HK := hide hKr
      clear hKr hc1 hc2 hc3 hc4 hc5 hc6 hd2 hd3 hd5 hd6 hx
      go_wp2
      go_quiet (fail)
      go_wp2
      go_roundw
      case rel => exact ⟨k + 1, by omega, by go_num, ((unhide HK).drewN _)⟩
      case measure => simp [intOf]; omega
    · go_wp2
      go_ret
      exact ⟨rfl, hKr.below (unhide HB) (unhide HB).size (by simp)⟩
end Go.Proofs.Qxb6001672a
