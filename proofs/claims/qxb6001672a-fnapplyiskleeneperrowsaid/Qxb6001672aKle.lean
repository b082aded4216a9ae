/-
  FnApplyIsKleenePerRow (9): THE WALK.
-/
import Derived.Test.Qxb6001672aZZ
import Derived.Test.Qxb6001672aAgree
import Derived.Test.Qxb6001672aAdd
set_option linter.unusedSimpArgs false
set_option linter.unusedVariables false
namespace Go.Proofs.Qxb6001672a
open Go.RowKit

set_option maxRecDepth 100000 in
set_option maxHeartbeats 1000000 in
theorem zzB38 (o ap bp : Bool) (p1 p2 p4 p5 : Option Addr) (n1 n2 n4 n5 c1 c2 c4 c5 : Nat) (w : World) :
    Calls Try.prog 38 #[.bool o, .slice p1 n1 c1, .slice p2 n2 c2, .bool ap, .slice p4 n4 c4, .slice p5 n5 c5, .bool bp] w (SomeBool w) := by
  by_cases h1 : n1 ≤ 1048576
  case neg => go_enter Try.func38, Try.ntmps38; go_wp2; go_ret; exact ⟨rfl, _, rfl⟩
  by_cases h2 : n2 ≤ 1048576
  case neg => go_enter Try.func38, Try.ntmps38; go_wp2; go_ret; exact ⟨rfl, _, rfl⟩
  by_cases s2 : n1 + n2 ≤ 1048576
  case neg => go_enter Try.func38, Try.ntmps38; go_wp2; go_ret; exact ⟨rfl, _, rfl⟩
  by_cases h4 : n4 ≤ 1048576
  case neg => go_enter Try.func38, Try.ntmps38; go_wp2; go_ret; exact ⟨rfl, _, rfl⟩
  by_cases s4 : n1 + n2 + n4 ≤ 1048576
  case neg => go_enter Try.func38, Try.ntmps38; go_wp2; go_ret; exact ⟨rfl, _, rfl⟩
  by_cases h5 : n5 ≤ 1048576
  case neg => go_enter Try.func38, Try.ntmps38; go_wp2; go_ret; exact ⟨rfl, _, rfl⟩
  by_cases s5 : n1 + n2 + n4 + n5 ≤ 1048576
  case neg => go_enter Try.func38, Try.ntmps38; go_wp2; go_ret; exact ⟨rfl, _, rfl⟩
  go_enter Try.func38, Try.ntmps38; go_wp2; go_ret; exact ⟨rfl, _, rfl⟩

theorem row_at (d : Int) (m : Nat) (xa ea xb eb : List Int) (k : Nat) (hk : k < m) (a va b vb : Int) (hak : xa[k]? = some a) (hva : ea[k]? = some va) (hbk : xb[k]? = some b) (hvb : eb[k]? = some vb) :
    (NL d m xa ea xb eb)[k]? = some (rN d a va b vb) ∧ (SL d m xa ea xb eb)[k]? = some (rS d a va b vb) := by
  rw [NL, SL, map_rg _ _ _ hk, map_rg _ _ _ hk]
  simp [hak, hbk, hva, hvb]
theorem eff_false (sa : List Int) : eff false sa = sa := by simp [eff]
theorem eff_true_at (sa : List Int) (k : Nat) (h : k < sa.length) : (eff true sa)[k]? = some 0 := by simp [eff, h]

theorem ix_of (va vb : Int) (ha : va = 0 ∨ va = 1 ∨ va = 2) (hb : vb = 0 ∨ vb = 1 ∨ vb = 2) : ix va vb = (va == 2 || vb == 2) := by
  rcases ha with rfl | rfl | rfl <;> rcases hb with rfl | rfl | rfl <;> decide

/-- THE PLAIN LAW of a row. -/
theorem rowlaw (o : Bool) (d : Int) (hd : d = if o then 2 else 0) (a va b vb : Int) (ha : va = 0 ∨ va = 1 ∨ va = 2) (hb : vb = 0 ∨ vb = 1 ∨ vb = 2) :
    ∃ t : Int, (t = 0 ∨ t = 1 ∨ t = 2) ∧ kl (tru a va) (tru b vb) o = t ∧ rN d a va b vb = (if t = 2 then 1 else 0) ∧ rS d a va b vb = (if va = 2 ∨ vb = 2 then 2 else if t = 1 then 1 else 0) := by
  have e : kl (tru a va) (tru b vb) o = jn d (tru a va) (tru b vb) := by
    subst hd
    rcases tru_cases a va with h | h | h <;> rcases tru_cases b vb with h' | h' | h' <;> rw [h, h'] <;> cases o <;> decide
  have et : jn d (tru a va) (tru b vb) = 0 ∨ jn d (tru a va) (tru b vb) = 1 ∨ jn d (tru a va) (tru b vb) = 2 := by
    subst hd
    rcases tru_cases a va with h | h | h <;> rcases tru_cases b vb with h' | h' | h' <;> rw [h, h'] <;> cases o <;> decide
  refine ⟨jn d (tru a va) (tru b vb), et, e, ?_, ?_⟩
  · unfold rN b2i
    simp
  · unfold rS tst
    rw [ix_of va vb ha hb]
    simp

set_option maxRecDepth 1000000 in
set_option maxHeartbeats 8000000 in
theorem kleene9 (o ap bp : Bool) (p1 p2 p4 p5 : Option Addr) (n1 n2 n4 n5 c1 c2 c4 c5 : Nat) (xa sa xb sb : List Int) (w : World)
    (h1 : Src w p1 (xa.map (Value.int .i64))) (h2 : Src w p2 (sa.map (Value.int .u8))) (h4 : Src w p4 (xb.map (Value.int .i64))) (h5 : Src w p5 (sb.map (Value.int .u8)))
    (l1 : xa.length = n1) (l2 : sa.length = n2) (l4 : xb.length = n4) (l5 : sb.length = n5)
    (z1 : p1 = none → n1 = 0 ∧ c1 = 0) (z2 : p2 = none → n2 = 0 ∧ c2 = 0) (z4 : p4 = none → n4 = 0 ∧ c4 = 0) (z5 : p5 = none → n5 = 0 ∧ c5 = 0)
    (ra : ∀ z ∈ xa, -9223372036854775808 ≤ z ∧ z ≤ 9223372036854775807) (rb : ∀ z ∈ xb, -9223372036854775808 ≤ z ∧ z ≤ 9223372036854775807) (rsa : ∀ z ∈ sa, 0 ≤ z) (rsb : ∀ z ∈ sb, 0 ≤ z) :
    Calls Try.prog 9 #[.bool o, .slice p1 n1 c1, .slice p2 n2 c2, .bool ap, .slice p4 n4 c4, .slice p5 n5 c5, .bool bp] w (RetTrue w) := by
  have HZ := hide (zzB38 o ap bp p1 p2 p4 p5 n1 n2 n4 n5 c1 c2 c4 c5 w)
  obtain ⟨d, hd⟩ : ∃ d : Int, d = if o then 2 else 0 := ⟨_, rfl⟩
  have D : Hid (∀ w, Calls Try.prog 42 #[.bool o] w (Pure w (.int .i8 d))) := fun w => hd ▸ decisive42 o w
  have HD := hide hd
  have H1 := hide h1
  have H2 := hide h2
  have H4 := hide h4
  have H5 := hide h5
  have Z1 := hide z1
  have Z2 := hide z2
  have Z4 := hide z4
  have Z5 := hide z5
  have RA := hide ra
  have RB := hide rb
  have RSA := hide rsa
  have RSB := hide rsb
  clear h1 h2 h4 h5 z1 z2 z4 z5 ra rb rsa rsb hd
  go_enter Try.func9, Try.ntmps9
  go_wp2_with fail
  refine (unhide HZ).mono ?_
  clear HZ
  rintro e w' ⟨hw, b, rfl⟩
  have hw := hw.symm
  subst hw
  simp only []
  cases b
  · go_wp2
    go_ret
    exact ⟨rfl, Below.refl _ _⟩
  by_cases hb : n1 ≤ 65536 ∧ n4 ≤ 65536 ∧ n2 ≤ 65536 ∧ n5 ≤ 65536
  case neg =>
    go_wp2
    all_goals first
      | (go_ret; exact ⟨rfl, Below.refl _ _⟩)
      | (exfalso; omega)
  obtain ⟨s1, s4, s2, s5⟩ := hb
  by_cases ht : 8 * n1 + n2 + 8 * n4 + n5 ≤ 1048576
  case neg =>
    go_wp2
    all_goals first
      | (go_ret; exact ⟨rfl, Below.refl _ _⟩)
      | (exfalso; omega)
  by_cases he4 : n4 = n1
  case neg =>
    have he' : (n4 == n1) = false := by simp [he4]
    go_wp2
    all_goals first
      | (go_ret; exact ⟨rfl, Below.refl _ _⟩)
      | (exfalso; omega)
  subst he4
  by_cases he2 : n2 = n4
  case neg =>
    have he' : (n2 == n4) = false := by simp [he2]
    go_wp2
    all_goals first
      | (go_ret; exact ⟨rfl, Below.refl _ _⟩)
      | (exfalso; omega)
  subst he2
  by_cases he5 : n5 = n2
  case neg =>
    have he' : (n5 == n2) = false := by simp [he5]
    go_wp2
    all_goals first
      | (go_ret; exact ⟨rfl, Below.refl _ _⟩)
      | (exfalso; omega)
  subst he5
  obtain ⟨m, hm⟩ : ∃ m, m = n5 := ⟨_, rfl⟩
  subst hm
  go_wp2
  go_loop [16] (fun i => ∃ k : Nat, k ≤ m ∧ i = .int .i64 k ∧ ∀ j x y, j < k → sa[j]? = some x → sb[j]? = some y → x ≤ 2 ∧ y ≤ 2) (fun i => m - (intOf i).toNat)
  case atStart => exact ⟨0, Nat.zero_le _, rfl, fun j x y h => by omega⟩
  case round =>
    obtain ⟨k, hk, rfl, hrl⟩ := hrel
    have HR := hide hrl
    clear hrl
    by_cases hlt : k < m
    · obtain ⟨va, hva⟩ := getElem?_lt_some sa k (by omega)
      obtain ⟨vb, hvb⟩ := getElem?_lt_some sb k (by omega)
      obtain ⟨b1, o1, r1, _, hc1⟩ := (unhide H2) (by simp [l2]; omega)
      obtain ⟨b2, o2, r2, _, hc2⟩ := (unhide H5) (by simp [l5]; omega)
      subst r1 r2
      have c1 : w.cell? ⟨b1, o1 + k, none⟩ = some (.int .u8 va) := hc1 _ _ (by simp [hva])
      have c2 : w.cell? ⟨b2, o2 + k, none⟩ = some (.int .u8 vb) := hc2 _ _ (by simp [hvb])
      have HVA := hide hva
      have HVB := hide hvb
      have i1 : (k : Int) < (m : Int) := by omega
      clear hc1 hc2 hva hvb
      by_cases x2 : va ≤ 2
      case neg =>
        go_wp2
        all_goals first
          | (go_ret; exact ⟨rfl, Below.refl _ _⟩)
          | (exfalso; omega)
      by_cases y2 : vb ≤ 2
      case neg =>
        go_wp2
        all_goals first
          | (go_ret; exact ⟨rfl, Below.refl _ _⟩)
          | (exfalso; omega)
      go_wp2
      go_round
      case rel =>
        refine ⟨k + 1, by omega, by go_num, fun j x y hj hx hy => ?_⟩
        by_cases hjk : j = k
        · subst hjk
          rw [unhide HVA] at hx
          rw [unhide HVB] at hy
          cases hx
          cases hy
          exact ⟨x2, y2⟩
        · exact (unhide HR) j x y (by omega) hx hy
      case measure => simp [intOf]; omega
    have hkm : m = k := by omega
    subst hkm
    have YA : Hid (∀ j x, sa[j]? = some x → j < m → x = 0 ∨ x = 1 ∨ x = 2) := fun j x hx hj => by
      obtain ⟨y, hy⟩ := getElem?_lt_some sb j (by omega)
      have := ((unhide HR) j x y hj hx hy).1
      have := (unhide RSA) x (List.mem_of_getElem? hx)
      omega
    have YB : Hid (∀ j x, sb[j]? = some x → j < m → x = 0 ∨ x = 1 ∨ x = 2) := fun j x hx hj => by
      obtain ⟨y, hy⟩ := getElem?_lt_some sa j (by omega)
      have := ((unhide HR) j y x hj hy hx).2
      have := (unhide RSB) x (List.mem_of_getElem? hx)
      omega
    have C1 : Hid (Calls Try.prog 39 #[.slice p1 m c1] w (Cl w m (xa.map (Value.int .i64)) 2)) := by
      have := clo39 p1 c1 xa w (by omega) (unhide H1) (by rw [l1]; exact unhide Z1)
      rwa [l1] at this
    have C4 : Hid (∀ v, Kp [] w v → Calls Try.prog 39 #[.slice p4 m c4] v (Cl v m (xb.map (Value.int .i64)) 2)) := fun v hv => by
      have := clo39 p4 c4 xb v (by omega) ((unhide H4).keep hv) (by rw [l4]; exact unhide Z4)
      rwa [l4] at this
    have C2 : Hid (∀ v, Kp [] w v → Calls Try.prog 40 #[.slice p2 m c2] v (Cl v m (sa.map (Value.int .u8)) 5)) := fun v hv => by
      have := clo40 p2 c2 sa v (by omega) ((unhide H2).keep hv) (by rw [l2]; exact unhide Z2)
      rwa [l2] at this
    have C5 : Hid (∀ v, Kp [] w v → Calls Try.prog 40 #[.slice p5 m c5] v (Cl v m (sb.map (Value.int .u8)) 5)) := fun v hv => by
      have := clo40 p5 c5 sb v (by omega) ((unhide H5).keep hv) (by rw [l5]; exact unhide Z5)
      rwa [l5] at this
    clear hlt
    go_wp2_with fail
    refine (unhide C1).mono ?_
    rintro e wa ⟨q1, rfl, S1, KA, _⟩
    simp only []
    go_wp2_with fail
    refine ((unhide C4) _ KA).mono ?_
    rintro e wb ⟨q4, rfl, S4, KB, _⟩
    simp only []
    go_wp2_with fail
    refine ((unhide C2) _ (KA.trans KB)).mono ?_
    rintro e wc ⟨q2, rfl, S2, KC, _⟩
    simp only []
    go_wp2_with fail
    refine ((unhide C5) _ ((KA.trans KB).trans KC)).mono ?_
    rintro e wd ⟨q5, rfl, S5, KD, _⟩
    simp only []
    go_wp2_with fail
    refine ((unhide D) _).mono ?_
    rintro e w9 ⟨hw9, rfl⟩
    have hw9 := hw9.symm
    subst hw9
    simp only []
    go_wp2_with fail
    have q2n : q2 = none → m = 0 := fun h => by
      by_cases h0 : m = 0
      · exact h0
      · have := (S2 (by simp [l2]; omega)).1
        rw [h] at this
        cases this
    have q5n : q5 = none → m = 0 := fun h => by
      by_cases h0 : m = 0
      · exact h0
      · have := (S5 (by simp [l5]; omega)).1
        rw [h] at this
        cases this
    have SA : Src wd q1 (xa.map (Value.int .i64)) := ((S1.src.keep KB).keep KC).keep KD
    have SB : Src wd q4 (xb.map (Value.int .i64)) := (S4.src.keep KC).keep KD
    have ZA : Src wd q2 (sa.map (Value.int .u8)) := S2.src.keep KD
    have ZB : Src wd q5 (sb.map (Value.int .u8)) := S5.src
    refine (zz41 d m q1 q2 q4 q5 xa sa xb sb ap bp wd SA SB ZA ZB l1 l4 l2 l5 q2n q5n (unhide RA) (unhide RB) s1).mono ?_
    rintro e v ⟨a1, b1, g1, h1, st, rfl, E, _, F, _, lst, hst, KE⟩
    simp only []
    have HB := hide (Kp.toBelow ((((KA.trans KB).trans KC).trans KD).trans KE))
    have SA := hide (SA.keep KE)
    have SB := hide (SB.keep KE)
    have ZA := hide (ZA.keep KE)
    have ZB := hide (ZB.keep KE)
    have E := hide E.src
    have F := hide F.src
    have HS := hide hst
    clear S1 S2 S4 S5 KA KB KC KD KE C1 C2 C4 C5 D H1 H2 H4 H5 Z1 Z2 Z4 Z5 RA RB RSA RSB HR hst q2n q5n
    cases ap <;> cases bp
    · have E := E
      go_wp2
      go_loopw [20] (fun i wr => ∃ k : Nat, k ≤ m ∧ i = .int .i64 k ∧ Kp [] v wr) (fun i _ => m - (intOf i).toNat)
      case atStart => exact ⟨0, Nat.zero_le _, rfl, Kp.refl _ _⟩
      case round =>
        obtain ⟨k, hk, rfl, hKr⟩ := hrel
        by_cases hlt : k < m
        · obtain ⟨a, hak⟩ := getElem?_lt_some xa k (by omega)
          obtain ⟨b, hbk⟩ := getElem?_lt_some xb k (by omega)
          obtain ⟨va, hva⟩ := getElem?_lt_some sa k (by omega)
          obtain ⟨vb, hvb⟩ := getElem?_lt_some sb k (by omega)
          have ya := (unhide YA) k va hva hlt
          have yb := (unhide YB) k vb hvb hlt
          obtain ⟨b1, o1, r1, _, hc1⟩ := ((unhide SA).keep hKr) (by simp [l1]; omega)
          obtain ⟨b2, o2, r2, _, hc2⟩ := ((unhide SB).keep hKr) (by simp [l4]; omega)
          obtain ⟨b3, o3, r3, _, hc3⟩ := ((unhide ZA).keep hKr) (by simp [l2]; omega)
          obtain ⟨b4, o4, r4, _, hc4⟩ := ((unhide ZB).keep hKr) (by simp [l5]; omega)
          obtain ⟨b5, o5, r5, _, hc5⟩ := ((unhide E).keep hKr) (by simp [NL]; omega)
          obtain ⟨b6, o6, r6, _, hc6⟩ := ((unhide F).keep hKr) (by simp [lst]; omega)
          subst r1 r2 r3 r4 r5 r6
          have R := row_at d m xa (eff false sa) xb (eff false sb) k hlt a va b vb hak (by rw [eff_false]; exact hva) hbk (by rw [eff_false]; exact hvb)
          obtain ⟨t, hT, e1, e2, e3⟩ := rowlaw o d (unhide HD) a va b vb (ya) (yb)
          have c1 : wr.cell? ⟨b1, o1 + k, none⟩ = some (.int .i64 a) := hc1 _ _ (by simp [hak])
          have c2 : wr.cell? ⟨b2, o2 + k, none⟩ = some (.int .i64 b) := hc2 _ _ (by simp [hbk])
          have c3 : wr.cell? ⟨b3, o3 + k, none⟩ = some (.int .u8 va) := hc3 _ _ (by simp [hva])
          have c4 : wr.cell? ⟨b4, o4 + k, none⟩ = some (.int .u8 vb) := hc4 _ _ (by simp [hvb])
          have c5 : wr.cell? ⟨b5, o5 + k, none⟩ = some (.int .i64 (if t = 2 then 1 else 0)) := hc5 _ _ (by rw [List.getElem?_map, R.1, e2]; rfl)
          have c6 : wr.cell? ⟨b6, o6 + k, none⟩ = some (.int .u8 (if va = 2 ∨ vb = 2 then 2 else if t = 1 then 1 else 0)) := hc6 _ _ (by rw [(unhide HS) rfl, List.getElem?_map, R.2, e3]; rfl)
          have kt : Hid (∀ w, Calls Try.prog 43 #[.int .i8 (tru a va), .int .i8 (tru b vb), .bool o] w (Pure w (.int .i8 t))) := fun w => e1 ▸ kleene43 _ _ o w (tru_cases _ _) (tru_cases _ _)
          have i1 : (k : Int) < (m : Int) := by omega
          have HK := hide hKr
          clear hKr hc1 hc2 hc3 hc4 hc5 hc6 hak hbk hva hvb ya yb e1 e2 e3 R
          rcases hT with rfl | rfl | rfl
          · replace c5 : wr.cell? ⟨b5, o5 + k, none⟩ = some (.int .i64 0) := c5
            by_cases x2 : va = 2
            · subst x2
              replace c6 : wr.cell? ⟨b6, o6 + k, none⟩ = some (.int .u8 2) := by rw [c6]; simp [*]
              go_wp2
              go_quiet ((first | (go_at_call 44; exact Calls.quiet_of_same (Pure.q (rowTruth44 _ _ _))) | (go_at_call 43; exact Calls.quiet_of_same (Pure.q ((unhide kt) _)))))
              go_wp2
              go_roundw
              case rel => exact ⟨k + 1, by omega, by go_num, ((unhide HK).drewN _)⟩
              case measure => simp [intOf]; omega
            · have q2 : (va == 2) = false := by simp [x2]
              by_cases y2 : vb = 2
              · subst y2
                replace c6 : wr.cell? ⟨b6, o6 + k, none⟩ = some (.int .u8 2) := by rw [c6]; simp [*]
                go_wp2
                go_quiet ((first | (go_at_call 44; exact Calls.quiet_of_same (Pure.q (rowTruth44 _ _ _))) | (go_at_call 43; exact Calls.quiet_of_same (Pure.q ((unhide kt) _)))))
                go_wp2
                go_roundw
                case rel => exact ⟨k + 1, by omega, by go_num, ((unhide HK).drewN _)⟩
                case measure => simp [intOf]; omega
              · have q3 : (vb == 2) = false := by simp [y2]
                replace c6 : wr.cell? ⟨b6, o6 + k, none⟩ = some (.int .u8 0) := by rw [c6]; simp [*]
                go_wp2
                go_quiet ((first | (go_at_call 44; exact Calls.quiet_of_same (Pure.q (rowTruth44 _ _ _))) | (go_at_call 43; exact Calls.quiet_of_same (Pure.q ((unhide kt) _)))))
                go_wp2
                go_roundw
                case rel => exact ⟨k + 1, by omega, by go_num, ((unhide HK).drewN _)⟩
                case measure => simp [intOf]; omega
          · replace c5 : wr.cell? ⟨b5, o5 + k, none⟩ = some (.int .i64 0) := c5
            by_cases x2 : va = 2
            · subst x2
              replace c6 : wr.cell? ⟨b6, o6 + k, none⟩ = some (.int .u8 2) := by rw [c6]; simp [*]
              go_wp2
              go_quiet ((first | (go_at_call 44; exact Calls.quiet_of_same (Pure.q (rowTruth44 _ _ _))) | (go_at_call 43; exact Calls.quiet_of_same (Pure.q ((unhide kt) _)))))
              go_wp2
              go_roundw
              case rel => exact ⟨k + 1, by omega, by go_num, ((unhide HK).drewN _)⟩
              case measure => simp [intOf]; omega
            · have q2 : (va == 2) = false := by simp [x2]
              by_cases y2 : vb = 2
              · subst y2
                replace c6 : wr.cell? ⟨b6, o6 + k, none⟩ = some (.int .u8 2) := by rw [c6]; simp [*]
                go_wp2
                go_quiet ((first | (go_at_call 44; exact Calls.quiet_of_same (Pure.q (rowTruth44 _ _ _))) | (go_at_call 43; exact Calls.quiet_of_same (Pure.q ((unhide kt) _)))))
                go_wp2
                go_roundw
                case rel => exact ⟨k + 1, by omega, by go_num, ((unhide HK).drewN _)⟩
                case measure => simp [intOf]; omega
              · have q3 : (vb == 2) = false := by simp [y2]
                replace c6 : wr.cell? ⟨b6, o6 + k, none⟩ = some (.int .u8 1) := by rw [c6]; simp [*]
                go_wp2
                go_quiet ((first | (go_at_call 44; exact Calls.quiet_of_same (Pure.q (rowTruth44 _ _ _))) | (go_at_call 43; exact Calls.quiet_of_same (Pure.q ((unhide kt) _)))))
                go_wp2
                go_roundw
                case rel => exact ⟨k + 1, by omega, by go_num, ((unhide HK).drewN _)⟩
                case measure => simp [intOf]; omega
          · replace c5 : wr.cell? ⟨b5, o5 + k, none⟩ = some (.int .i64 1) := c5
            by_cases x2 : va = 2
            · subst x2
              replace c6 : wr.cell? ⟨b6, o6 + k, none⟩ = some (.int .u8 2) := by rw [c6]; simp [*]
              go_wp2
              go_quiet ((first | (go_at_call 44; exact Calls.quiet_of_same (Pure.q (rowTruth44 _ _ _))) | (go_at_call 43; exact Calls.quiet_of_same (Pure.q ((unhide kt) _)))))
              go_wp2
              go_roundw
              case rel => exact ⟨k + 1, by omega, by go_num, ((unhide HK).drewN _)⟩
              case measure => simp [intOf]; omega
            · have q2 : (va == 2) = false := by simp [x2]
              by_cases y2 : vb = 2
              · subst y2
                replace c6 : wr.cell? ⟨b6, o6 + k, none⟩ = some (.int .u8 2) := by rw [c6]; simp [*]
                go_wp2
                go_quiet ((first | (go_at_call 44; exact Calls.quiet_of_same (Pure.q (rowTruth44 _ _ _))) | (go_at_call 43; exact Calls.quiet_of_same (Pure.q ((unhide kt) _)))))
                go_wp2
                go_roundw
                case rel => exact ⟨k + 1, by omega, by go_num, ((unhide HK).drewN _)⟩
                case measure => simp [intOf]; omega
              · have q3 : (vb == 2) = false := by simp [y2]
                replace c6 : wr.cell? ⟨b6, o6 + k, none⟩ = some (.int .u8 0) := by rw [c6]; simp [*]
                go_wp2
                go_quiet ((first | (go_at_call 44; exact Calls.quiet_of_same (Pure.q (rowTruth44 _ _ _))) | (go_at_call 43; exact Calls.quiet_of_same (Pure.q ((unhide kt) _)))))
                go_wp2
                go_roundw
                case rel => exact ⟨k + 1, by omega, by go_num, ((unhide HK).drewN _)⟩
                case measure => simp [intOf]; omega
        · go_wp2
          go_ret
          exact ⟨rfl, hKr.below (unhide HB) (unhide HB).size (by simp)⟩
    · have E := E
      go_wp2
      go_loopw [20] (fun i wr => ∃ k : Nat, k ≤ m ∧ i = .int .i64 k ∧ Kp [] v wr) (fun i _ => m - (intOf i).toNat)
      case atStart => exact ⟨0, Nat.zero_le _, rfl, Kp.refl _ _⟩
      case round =>
        obtain ⟨k, hk, rfl, hKr⟩ := hrel
        by_cases hlt : k < m
        · obtain ⟨a, hak⟩ := getElem?_lt_some xa k (by omega)
          obtain ⟨b, hbk⟩ := getElem?_lt_some xb k (by omega)
          obtain ⟨va, hva⟩ := getElem?_lt_some sa k (by omega)
          obtain ⟨vb, hvb⟩ := getElem?_lt_some sb k (by omega)
          have ya := (unhide YA) k va hva hlt
          have yb := (unhide YB) k vb hvb hlt
          obtain ⟨b1, o1, r1, _, hc1⟩ := ((unhide SA).keep hKr) (by simp [l1]; omega)
          obtain ⟨b2, o2, r2, _, hc2⟩ := ((unhide SB).keep hKr) (by simp [l4]; omega)
          obtain ⟨b3, o3, r3, _, hc3⟩ := ((unhide ZA).keep hKr) (by simp [l2]; omega)
          obtain ⟨b4, o4, r4, _, hc4⟩ := ((unhide ZB).keep hKr) (by simp [l5]; omega)
          obtain ⟨b5, o5, r5, _, hc5⟩ := ((unhide E).keep hKr) (by simp [NL]; omega)
          obtain ⟨b6, o6, r6, _, hc6⟩ := ((unhide F).keep hKr) (by simp [lst]; omega)
          subst r1 r2 r3 r4 r5 r6
          have R := row_at d m xa (eff false sa) xb (eff true sb) k hlt a va b (0 : Int) hak (by rw [eff_false]; exact hva) hbk (eff_true_at sb k (by omega))
          obtain ⟨t, hT, e1, e2, e3⟩ := rowlaw o d (unhide HD) a va b (0 : Int) (ya) (.inl rfl)
          have c1 : wr.cell? ⟨b1, o1 + k, none⟩ = some (.int .i64 a) := hc1 _ _ (by simp [hak])
          have c2 : wr.cell? ⟨b2, o2 + k, none⟩ = some (.int .i64 b) := hc2 _ _ (by simp [hbk])
          have c3 : wr.cell? ⟨b3, o3 + k, none⟩ = some (.int .u8 va) := hc3 _ _ (by simp [hva])
          have c4 : wr.cell? ⟨b4, o4 + k, none⟩ = some (.int .u8 vb) := hc4 _ _ (by simp [hvb])
          have c5 : wr.cell? ⟨b5, o5 + k, none⟩ = some (.int .i64 (if t = 2 then 1 else 0)) := hc5 _ _ (by rw [List.getElem?_map, R.1, e2]; rfl)
          have c6 : wr.cell? ⟨b6, o6 + k, none⟩ = some (.int .u8 (if va = 2 ∨ (0 : Int) = 2 then 2 else if t = 1 then 1 else 0)) := hc6 _ _ (by rw [(unhide HS) rfl, List.getElem?_map, R.2, e3]; rfl)
          have kt : Hid (∀ w, Calls Try.prog 43 #[.int .i8 (tru a va), .int .i8 (tru b (0 : Int)), .bool o] w (Pure w (.int .i8 t))) := fun w => e1 ▸ kleene43 _ _ o w (tru_cases _ _) (tru_cases _ _)
          have i1 : (k : Int) < (m : Int) := by omega
          have HK := hide hKr
          clear hKr hc1 hc2 hc3 hc4 hc5 hc6 hak hbk hva hvb ya yb e1 e2 e3 R
          rcases hT with rfl | rfl | rfl
          · replace c5 : wr.cell? ⟨b5, o5 + k, none⟩ = some (.int .i64 0) := c5
            by_cases x2 : va = 2
            · subst x2
              replace c6 : wr.cell? ⟨b6, o6 + k, none⟩ = some (.int .u8 2) := by rw [c6]; simp [*]
              go_wp2
              go_quiet ((first | (go_at_call 44; exact Calls.quiet_of_same (Pure.q (rowTruth44 _ _ _))) | (go_at_call 43; exact Calls.quiet_of_same (Pure.q ((unhide kt) _)))))
              go_wp2
              go_roundw
              case rel => exact ⟨k + 1, by omega, by go_num, ((unhide HK).drewN _)⟩
              case measure => simp [intOf]; omega
            · have q2 : (va == 2) = false := by simp [x2]
              replace c6 : wr.cell? ⟨b6, o6 + k, none⟩ = some (.int .u8 0) := by rw [c6]; simp [*]
              go_wp2
              go_quiet ((first | (go_at_call 44; exact Calls.quiet_of_same (Pure.q (rowTruth44 _ _ _))) | (go_at_call 43; exact Calls.quiet_of_same (Pure.q ((unhide kt) _)))))
              go_wp2
              go_roundw
              case rel => exact ⟨k + 1, by omega, by go_num, ((unhide HK).drewN _)⟩
              case measure => simp [intOf]; omega
          · replace c5 : wr.cell? ⟨b5, o5 + k, none⟩ = some (.int .i64 0) := c5
            by_cases x2 : va = 2
            · subst x2
              replace c6 : wr.cell? ⟨b6, o6 + k, none⟩ = some (.int .u8 2) := by rw [c6]; simp [*]
              go_wp2
              go_quiet ((first | (go_at_call 44; exact Calls.quiet_of_same (Pure.q (rowTruth44 _ _ _))) | (go_at_call 43; exact Calls.quiet_of_same (Pure.q ((unhide kt) _)))))
              go_wp2
              go_roundw
              case rel => exact ⟨k + 1, by omega, by go_num, ((unhide HK).drewN _)⟩
              case measure => simp [intOf]; omega
            · have q2 : (va == 2) = false := by simp [x2]
              replace c6 : wr.cell? ⟨b6, o6 + k, none⟩ = some (.int .u8 1) := by rw [c6]; simp [*]
              go_wp2
              go_quiet ((first | (go_at_call 44; exact Calls.quiet_of_same (Pure.q (rowTruth44 _ _ _))) | (go_at_call 43; exact Calls.quiet_of_same (Pure.q ((unhide kt) _)))))
              go_wp2
              go_roundw
              case rel => exact ⟨k + 1, by omega, by go_num, ((unhide HK).drewN _)⟩
              case measure => simp [intOf]; omega
          · replace c5 : wr.cell? ⟨b5, o5 + k, none⟩ = some (.int .i64 1) := c5
            by_cases x2 : va = 2
            · subst x2
              replace c6 : wr.cell? ⟨b6, o6 + k, none⟩ = some (.int .u8 2) := by rw [c6]; simp [*]
              go_wp2
              go_quiet ((first | (go_at_call 44; exact Calls.quiet_of_same (Pure.q (rowTruth44 _ _ _))) | (go_at_call 43; exact Calls.quiet_of_same (Pure.q ((unhide kt) _)))))
              go_wp2
              go_roundw
              case rel => exact ⟨k + 1, by omega, by go_num, ((unhide HK).drewN _)⟩
              case measure => simp [intOf]; omega
            · have q2 : (va == 2) = false := by simp [x2]
              replace c6 : wr.cell? ⟨b6, o6 + k, none⟩ = some (.int .u8 0) := by rw [c6]; simp [*]
              go_wp2
              go_quiet ((first | (go_at_call 44; exact Calls.quiet_of_same (Pure.q (rowTruth44 _ _ _))) | (go_at_call 43; exact Calls.quiet_of_same (Pure.q ((unhide kt) _)))))
              go_wp2
              go_roundw
              case rel => exact ⟨k + 1, by omega, by go_num, ((unhide HK).drewN _)⟩
              case measure => simp [intOf]; omega
        · go_wp2
          go_ret
          exact ⟨rfl, hKr.below (unhide HB) (unhide HB).size (by simp)⟩
    · have E := E
      go_wp2
      go_loopw [20] (fun i wr => ∃ k : Nat, k ≤ m ∧ i = .int .i64 k ∧ Kp [] v wr) (fun i _ => m - (intOf i).toNat)
      case atStart => exact ⟨0, Nat.zero_le _, rfl, Kp.refl _ _⟩
      case round =>
        obtain ⟨k, hk, rfl, hKr⟩ := hrel
        by_cases hlt : k < m
        · obtain ⟨a, hak⟩ := getElem?_lt_some xa k (by omega)
          obtain ⟨b, hbk⟩ := getElem?_lt_some xb k (by omega)
          obtain ⟨va, hva⟩ := getElem?_lt_some sa k (by omega)
          obtain ⟨vb, hvb⟩ := getElem?_lt_some sb k (by omega)
          have ya := (unhide YA) k va hva hlt
          have yb := (unhide YB) k vb hvb hlt
          obtain ⟨b1, o1, r1, _, hc1⟩ := ((unhide SA).keep hKr) (by simp [l1]; omega)
          obtain ⟨b2, o2, r2, _, hc2⟩ := ((unhide SB).keep hKr) (by simp [l4]; omega)
          obtain ⟨b3, o3, r3, _, hc3⟩ := ((unhide ZA).keep hKr) (by simp [l2]; omega)
          obtain ⟨b4, o4, r4, _, hc4⟩ := ((unhide ZB).keep hKr) (by simp [l5]; omega)
          obtain ⟨b5, o5, r5, _, hc5⟩ := ((unhide E).keep hKr) (by simp [NL]; omega)
          obtain ⟨b6, o6, r6, _, hc6⟩ := ((unhide F).keep hKr) (by simp [lst]; omega)
          subst r1 r2 r3 r4 r5 r6
          have R := row_at d m xa (eff true sa) xb (eff false sb) k hlt a (0 : Int) b vb hak (eff_true_at sa k (by omega)) hbk (by rw [eff_false]; exact hvb)
          obtain ⟨t, hT, e1, e2, e3⟩ := rowlaw o d (unhide HD) a (0 : Int) b vb (.inl rfl) (yb)
          have c1 : wr.cell? ⟨b1, o1 + k, none⟩ = some (.int .i64 a) := hc1 _ _ (by simp [hak])
          have c2 : wr.cell? ⟨b2, o2 + k, none⟩ = some (.int .i64 b) := hc2 _ _ (by simp [hbk])
          have c3 : wr.cell? ⟨b3, o3 + k, none⟩ = some (.int .u8 va) := hc3 _ _ (by simp [hva])
          have c4 : wr.cell? ⟨b4, o4 + k, none⟩ = some (.int .u8 vb) := hc4 _ _ (by simp [hvb])
          have c5 : wr.cell? ⟨b5, o5 + k, none⟩ = some (.int .i64 (if t = 2 then 1 else 0)) := hc5 _ _ (by rw [List.getElem?_map, R.1, e2]; rfl)
          have c6 : wr.cell? ⟨b6, o6 + k, none⟩ = some (.int .u8 (if (0 : Int) = 2 ∨ vb = 2 then 2 else if t = 1 then 1 else 0)) := hc6 _ _ (by rw [(unhide HS) rfl, List.getElem?_map, R.2, e3]; rfl)
          have kt : Hid (∀ w, Calls Try.prog 43 #[.int .i8 (tru a (0 : Int)), .int .i8 (tru b vb), .bool o] w (Pure w (.int .i8 t))) := fun w => e1 ▸ kleene43 _ _ o w (tru_cases _ _) (tru_cases _ _)
          have i1 : (k : Int) < (m : Int) := by omega
          have HK := hide hKr
          clear hKr hc1 hc2 hc3 hc4 hc5 hc6 hak hbk hva hvb ya yb e1 e2 e3 R
          rcases hT with rfl | rfl | rfl
          · replace c5 : wr.cell? ⟨b5, o5 + k, none⟩ = some (.int .i64 0) := c5
            by_cases x2 : vb = 2
            · subst x2
              replace c6 : wr.cell? ⟨b6, o6 + k, none⟩ = some (.int .u8 2) := by rw [c6]; simp [*]
              go_wp2
              go_quiet ((first | (go_at_call 44; exact Calls.quiet_of_same (Pure.q (rowTruth44 _ _ _))) | (go_at_call 43; exact Calls.quiet_of_same (Pure.q ((unhide kt) _)))))
              go_wp2
              go_roundw
              case rel => exact ⟨k + 1, by omega, by go_num, ((unhide HK).drewN _)⟩
              case measure => simp [intOf]; omega
            · have q2 : (vb == 2) = false := by simp [x2]
              replace c6 : wr.cell? ⟨b6, o6 + k, none⟩ = some (.int .u8 0) := by rw [c6]; simp [*]
              go_wp2
              go_quiet ((first | (go_at_call 44; exact Calls.quiet_of_same (Pure.q (rowTruth44 _ _ _))) | (go_at_call 43; exact Calls.quiet_of_same (Pure.q ((unhide kt) _)))))
              go_wp2
              go_roundw
              case rel => exact ⟨k + 1, by omega, by go_num, ((unhide HK).drewN _)⟩
              case measure => simp [intOf]; omega
          · replace c5 : wr.cell? ⟨b5, o5 + k, none⟩ = some (.int .i64 0) := c5
            by_cases x2 : vb = 2
            · subst x2
              replace c6 : wr.cell? ⟨b6, o6 + k, none⟩ = some (.int .u8 2) := by rw [c6]; simp [*]
              go_wp2
              go_quiet ((first | (go_at_call 44; exact Calls.quiet_of_same (Pure.q (rowTruth44 _ _ _))) | (go_at_call 43; exact Calls.quiet_of_same (Pure.q ((unhide kt) _)))))
              go_wp2
              go_roundw
              case rel => exact ⟨k + 1, by omega, by go_num, ((unhide HK).drewN _)⟩
              case measure => simp [intOf]; omega
            · have q2 : (vb == 2) = false := by simp [x2]
              replace c6 : wr.cell? ⟨b6, o6 + k, none⟩ = some (.int .u8 1) := by rw [c6]; simp [*]
              go_wp2
              go_quiet ((first | (go_at_call 44; exact Calls.quiet_of_same (Pure.q (rowTruth44 _ _ _))) | (go_at_call 43; exact Calls.quiet_of_same (Pure.q ((unhide kt) _)))))
              go_wp2
              go_roundw
              case rel => exact ⟨k + 1, by omega, by go_num, ((unhide HK).drewN _)⟩
              case measure => simp [intOf]; omega
          · replace c5 : wr.cell? ⟨b5, o5 + k, none⟩ = some (.int .i64 1) := c5
            by_cases x2 : vb = 2
            · subst x2
              replace c6 : wr.cell? ⟨b6, o6 + k, none⟩ = some (.int .u8 2) := by rw [c6]; simp [*]
              go_wp2
              go_quiet ((first | (go_at_call 44; exact Calls.quiet_of_same (Pure.q (rowTruth44 _ _ _))) | (go_at_call 43; exact Calls.quiet_of_same (Pure.q ((unhide kt) _)))))
              go_wp2
              go_roundw
              case rel => exact ⟨k + 1, by omega, by go_num, ((unhide HK).drewN _)⟩
              case measure => simp [intOf]; omega
            · have q2 : (vb == 2) = false := by simp [x2]
              replace c6 : wr.cell? ⟨b6, o6 + k, none⟩ = some (.int .u8 0) := by rw [c6]; simp [*]
              go_wp2
              go_quiet ((first | (go_at_call 44; exact Calls.quiet_of_same (Pure.q (rowTruth44 _ _ _))) | (go_at_call 43; exact Calls.quiet_of_same (Pure.q ((unhide kt) _)))))
              go_wp2
              go_roundw
              case rel => exact ⟨k + 1, by omega, by go_num, ((unhide HK).drewN _)⟩
              case measure => simp [intOf]; omega
        · go_wp2
          go_ret
          exact ⟨rfl, hKr.below (unhide HB) (unhide HB).size (by simp)⟩
    · have E := E
      go_wp2
      go_loopw [20] (fun i wr => ∃ k : Nat, k ≤ m ∧ i = .int .i64 k ∧ Kp [] v wr) (fun i _ => m - (intOf i).toNat)
      case atStart => exact ⟨0, Nat.zero_le _, rfl, Kp.refl _ _⟩
      case round =>
        obtain ⟨k, hk, rfl, hKr⟩ := hrel
        by_cases hlt : k < m
        · obtain ⟨a, hak⟩ := getElem?_lt_some xa k (by omega)
          obtain ⟨b, hbk⟩ := getElem?_lt_some xb k (by omega)
          obtain ⟨va, hva⟩ := getElem?_lt_some sa k (by omega)
          obtain ⟨vb, hvb⟩ := getElem?_lt_some sb k (by omega)
          have ya := (unhide YA) k va hva hlt
          have yb := (unhide YB) k vb hvb hlt
          obtain ⟨b1, o1, r1, _, hc1⟩ := ((unhide SA).keep hKr) (by simp [l1]; omega)
          obtain ⟨b2, o2, r2, _, hc2⟩ := ((unhide SB).keep hKr) (by simp [l4]; omega)
          obtain ⟨b3, o3, r3, _, hc3⟩ := ((unhide ZA).keep hKr) (by simp [l2]; omega)
          obtain ⟨b4, o4, r4, _, hc4⟩ := ((unhide ZB).keep hKr) (by simp [l5]; omega)
          obtain ⟨b5, o5, r5, _, hc5⟩ := ((unhide E).keep hKr) (by simp [NL]; omega)
          obtain ⟨b6, o6, r6, _, hc6⟩ := ((unhide F).keep hKr) (by simp [lst]; omega)
          subst r1 r2 r3 r4 r5 r6
          have R := row_at d m xa (eff true sa) xb (eff true sb) k hlt a (0 : Int) b (0 : Int) hak (eff_true_at sa k (by omega)) hbk (eff_true_at sb k (by omega))
          obtain ⟨t, hT, e1, e2, e3⟩ := rowlaw o d (unhide HD) a (0 : Int) b (0 : Int) (.inl rfl) (.inl rfl)
          have c1 : wr.cell? ⟨b1, o1 + k, none⟩ = some (.int .i64 a) := hc1 _ _ (by simp [hak])
          have c2 : wr.cell? ⟨b2, o2 + k, none⟩ = some (.int .i64 b) := hc2 _ _ (by simp [hbk])
          have c3 : wr.cell? ⟨b3, o3 + k, none⟩ = some (.int .u8 va) := hc3 _ _ (by simp [hva])
          have c4 : wr.cell? ⟨b4, o4 + k, none⟩ = some (.int .u8 vb) := hc4 _ _ (by simp [hvb])
          have c5 : wr.cell? ⟨b5, o5 + k, none⟩ = some (.int .i64 (if t = 2 then 1 else 0)) := hc5 _ _ (by rw [List.getElem?_map, R.1, e2]; rfl)
          have kt : Hid (∀ w, Calls Try.prog 43 #[.int .i8 (tru a (0 : Int)), .int .i8 (tru b (0 : Int)), .bool o] w (Pure w (.int .i8 t))) := fun w => e1 ▸ kleene43 _ _ o w (tru_cases _ _) (tru_cases _ _)
          have i1 : (k : Int) < (m : Int) := by omega
          have HK := hide hKr
          clear hKr hc1 hc2 hc3 hc4 hc5 hc6 hak hbk hva hvb ya yb e1 e2 e3 R
          rcases hT with rfl | rfl | rfl
          · replace c5 : wr.cell? ⟨b5, o5 + k, none⟩ = some (.int .i64 0) := c5
            go_wp2
            go_quiet ((first | (go_at_call 44; exact Calls.quiet_of_same (Pure.q (rowTruth44 _ _ _))) | (go_at_call 43; exact Calls.quiet_of_same (Pure.q ((unhide kt) _)))))
            go_wp2
            go_roundw
            case rel => exact ⟨k + 1, by omega, by go_num, ((unhide HK).drewN _)⟩
            case measure => simp [intOf]; omega
          · replace c5 : wr.cell? ⟨b5, o5 + k, none⟩ = some (.int .i64 0) := c5
            go_wp2
            go_quiet ((first | (go_at_call 44; exact Calls.quiet_of_same (Pure.q (rowTruth44 _ _ _))) | (go_at_call 43; exact Calls.quiet_of_same (Pure.q ((unhide kt) _)))))
            go_wp2
            go_roundw
            case rel => exact ⟨k + 1, by omega, by go_num, ((unhide HK).drewN _)⟩
            case measure => simp [intOf]; omega
          · replace c5 : wr.cell? ⟨b5, o5 + k, none⟩ = some (.int .i64 1) := c5
            go_wp2
            go_quiet ((first | (go_at_call 44; exact Calls.quiet_of_same (Pure.q (rowTruth44 _ _ _))) | (go_at_call 43; exact Calls.quiet_of_same (Pure.q ((unhide kt) _)))))
            go_wp2
            go_roundw
            case rel => exact ⟨k + 1, by omega, by go_num, ((unhide HK).drewN _)⟩
            case measure => simp [intOf]; omega
        · go_wp2
          go_ret
          exact ⟨rfl, hKr.below (unhide HB) (unhide HB).size (by simp)⟩

end Go.Proofs.Qxb6001672a
