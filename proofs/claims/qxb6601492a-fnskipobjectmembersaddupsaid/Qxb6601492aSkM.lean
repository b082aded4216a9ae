/-
  FnSkipObjectMembersAddUp (4): THE WALK.
-/
import Derived.Test.Qxb6601492aSkL
set_option linter.unusedSimpArgs false
set_option linter.unusedVariables false
namespace Go.Proofs.Qxb6601492a
open Go.RowKit

def RetT (w : World) (e : Ending) (w' : World) : Prop := e = .returned (.bool true) ∧ Below w.heap.size w w'
def SomeBool (w : World) (e : Ending) (w' : World) : Prop := w' = w ∧ ∃ b, e = .returned (.bool b)
set_option maxRecDepth 100000 in
theorem zzB12 (p : Option Addr) (n c : Nat) (a : Int) (w : World) : Calls Try.prog 12 #[.slice p n c, .int .i64 a] w (SomeBool w) := by
  by_cases h1 : n ≤ 1048576
  case neg => go_enter Try.func12, Try.ntmps12; go_wp2; go_ret; exact ⟨rfl, _, rfl⟩
  go_enter Try.func12, Try.ntmps12; go_wp2; go_ret; exact ⟨rfl, _, rfl⟩

theorem info5 : (Try.prog.info? 5).map (fun i => (i.zero, i.size, i.bytes)) = some (some (.int .u8 0), 1, 1) := by kernel_rfl
/-- What the clone hands back. -/
def ClO (w : World) (n : Nat) (t : List Int) (e : Ending) (w' : World) : Prop := ∃ g, e = .returned (.slice (some ⟨g, 0, none⟩) n n) ∧ Txt w' g 0 t ∧ Kp [] w w'
set_option maxRecDepth 100000 in
set_option maxHeartbeats 1000000 in
theorem clone9 (b o n c : Nat) (t : List Int) (w : World) (hT : Txt w b o t) (hn : t.length = n) (hl : n ≤ 65536) : Calls Try.prog 9 #[.slice (some ⟨b, o, none⟩) n c] w (ClO w n t) := by
  have hnil : ∀ w, (binOp .eql 22 (.slice (some ⟨b, o, none⟩) n c) (.slice none 0 0)).run Try.prog w = .ok (.bool false) w := fun w => by
    rw [Lib.run_eql_slice_nil w 22 5 _ _ _ _ _ Try.underlying22]; rfl
  have hmk := fun w => run_make_row' (P := Try.prog) 22 5 (.int .u8 0) 1 Try.underlying22 info5 rfl .i64 .i64 n (by omega) (by omega) w
  obtain ⟨v, hv⟩ : ∃ v, v = w.alloc (.cells (madeCells #[.int .u8 0] n) 5) := ⟨_, rfl⟩
  have kv : Kp [] w v := by rw [hv]; exact (Kp.refl _ _).alloc _
  have bv : Blk v w.heap.size (fill (t.map (Value.int .u8)) (.int .u8 0) 0) 5 := by
    rw [hv, fill_zero]
    have := Blk.new w (madeCells #[.int .u8 0] n) 5
    rw [made_list] at this
    simpa [hn] using this
  have HT := hide hT
  have HN := hide hn
  have HV := hide hv
  have KV := hide kv
  have BV := hide bv
  have hbw : b < w.heap.size := hT.1
  clear hT hn hv kv bv
  go_enter Try.func9, Try.ntmps9
  go_wp2
  rw [← unhide HV]
  clear HV
  go_loopw [4] (fun x wr => ∃ k : Nat, k ≤ n ∧ x = .int .i64 k ∧ Blk wr w.heap.size (fill (t.map (Value.int .u8)) (.int .u8 0) k) 5 ∧ Kp [w.heap.size] v wr) (fun x _ => n - (intOf x).toNat)
  case atStart => exact ⟨0, Nat.zero_le _, rfl, unhide BV, Kp.refl _ _⟩
  case round =>
    obtain ⟨k, hk, rfl, hB, hK⟩ := hrel
    have TR := hide ((((unhide HT).keep (unhide KV)).kp hK (by simp; omega)))
    by_cases hlt : k < n
    · obtain ⟨y, hy⟩ := getElem?_lt_some t k (by have := unhide HN; omega)
      have c1 := (unhide TR).2 k y hy
      have c2 : wr.cell? ⟨w.heap.size, k, none⟩ = some (.int .u8 0) := hB.cell (fill_at _ _ _ (by simp [unhide HN]; omega))
      have f2 := hB.frozen k
      have i1 : (k : Int) < (n : Int) := by omega
      have HB := hide hB
      have HK := hide hK
      have HY : Hid ((t.map (Value.int .u8))[k]? = some (.int .u8 y)) := by show _ = _; simp [hy]
      clear hB hK hy
      go_wp2
      go_roundw
      case rel =>
        refine ⟨k + 1, by omega, by go_num, ?_, (unhide HK).setCell (.inl (by simp)) _⟩
        have := (unhide HB).set k (.int .u8 y)
        rwa [fill_set _ _ _ _ (unhide HY)] at this
      case measure => simp [intOf]; omega
    · obtain rfl : k = n := by omega
      rw [fill_all _ _ _ (by simp [unhide HN])] at hB
      have F : Hid (Txt wr w.heap.size 0 t ∧ Kp [] w wr) := ⟨⟨hB.lt, fun i x hx => by rw [Nat.zero_add]; exact hB.cell (by simp [hx])⟩, (unhide KV).then hK (fun i hi => by simp at hi; right; omega)⟩
      clear hB hK
      go_wp2
      go_ret
      exact ⟨_, rfl, (unhide F).1, (unhide F).2⟩

theorem MW.quote {t : List Int} : ∀ {f p e : Nat}, MW t f p e → t[p]? = some 34
  | 0, _, _, h => h.elim
  | f + 1, p, e, ⟨k, e', h, _⟩ => h.1
theorem V.obj {t : List Int} {p e : Nat} (h : V t p e) (hp : t[p]? = some 123) : OBJ t p e := by
  rcases h with h | h | h
  · have := h.1
    rw [hp] at this
    cases this
  · exact h
  · obtain ⟨c, hc, hpl⟩ := h.2.2 p (Nat.le_refl _) h.1
    rw [hp] at hc
    cases hc
    cases hpl

set_option maxRecDepth 1000000 in
set_option maxHeartbeats 4000000 in
theorem skip4 (p : Option Addr) (n c : Nat) (a : Int) (t : List Int) (w : World) (hp : Src w p (t.map (Value.int .u8))) (hn : t.length = n) :
    Calls Try.prog 4 #[.slice p n c, .int .i64 a] w (RetT w) := by
  have Z := hide (zzB12 p n c a w)
  have HP := hide hp
  have HN := hide hn
  clear hp hn
  go_enter Try.func4, Try.ntmps4
  go_wp2_with fail
  refine (unhide Z).mono ?_
  clear Z
  rintro e w' ⟨hw, bb, rfl⟩
  have hw := hw.symm
  subst hw
  simp only []
  cases bb
  · go_wp2
    go_ret
    exact ⟨rfl, Below.refl _ _⟩
  by_cases hl : n ≤ 65536
  case neg =>
    go_wp2
    all_goals first
      | (go_ret; exact ⟨rfl, Below.refl _ _⟩)
      | (exfalso; omega)
  have i0 : (n : Int) ≤ 65536 := by omega
  by_cases ha : 0 ≤ a ∧ a < n
  case neg =>
    go_wp2
    all_goals first
      | (go_ret; exact ⟨rfl, Below.refl _ _⟩)
      | (exfalso; omega)
  obtain ⟨ha0, han⟩ := ha
  obtain ⟨s, hs⟩ := Int.eq_ofNat_of_zero_le ha0
  subst hs
  have hsn : s < n := by omega
  obtain ⟨b, o, hpe, hb, hc⟩ := (unhide HP) (by simp [unhide HN]; omega)
  subst hpe
  have HT : Hid (Txt w b o t) := ⟨hb, fun i x hx => hc i _ (by simp [hx])⟩
  clear hb hc HP
  obtain ⟨x0, hx0⟩ := getElem?_lt_some t s (by have := unhide HN; omega)
  have c0 := (unhide HT).2 s x0 hx0
  have j0 : ¬ (s : Int) < 0 := by omega
  by_cases h123 : x0 = 123
  case neg =>
    have g : (x0 != 123) = true := by simp [h123]
    clear hx0
    go_wp2
    all_goals first
      | (go_ret; exact ⟨rfl, Below.refl _ _⟩)
      | (exfalso; simp_all)
  subst h123
  have HX := hide hx0
  clear hx0
  have C := hide (clone9 b o n c t w (unhide HT) (unhide HN) hl)
  go_wp2_with fail
  refine (unhide C).mono ?_
  clear C
  rintro e w1 ⟨g, rfl, hT1, k1⟩
  have T1 := hide hT1
  have K1 := hide k1
  clear hT1 k1 HT c0
  have C := hide (val13 g 0 n n t (unhide HN) hl n s w1 (by omega) (by omega) (unhide T1))
  simp only []
  go_wp2_with fail
  refine (unhide C).mono ?_
  clear C
  rintro e w2 ⟨k2, rfl | ⟨k, rfl, hV, hM⟩⟩
  · have K2 := hide ((unhide K1).trans k2)
    clear k2
    simp only []
    go_wp2
    all_goals first
      | (go_ret; exact ⟨rfl, (unhide K2).toBelow⟩)
      | (exfalso; omega)
  have K2 := hide ((unhide K1).trans k2)
  have T2 := hide ((unhide T1).keep k2)
  have hO := hV.obj (unhide HX)
  have hM := hide (hM (unhide HX))
  have hkn := hO.le
  have jk : ¬ (k : Int) < 0 := by omega
  have C := hide (zzSkip11 g 0 n n s k t w2 (unhide T2) (unhide HN) hl (.inr (.inl hO)))
  clear k2 hV hO K1 T1
  simp only []
  go_wp2_with fail
  refine (unhide C).mono ?_
  clear C
  rintro e w3 ⟨rfl, k3⟩
  have K3 := hide ((unhide K2).trans k3)
  have T3 := hide ((unhide T2).keep k3)
  clear k3 K2 T2
  obtain ⟨p0, hp0⟩ : ∃ p0, p0 = ws t (s + 1) := ⟨_, rfl⟩
  have l0 : p0 ≤ n := by rw [hp0, ← unhide HN]; exact ws_le _ _ (by have := unhide HN; omega)
  have C := ws14 g 0 n n (s + 1) t w3 (unhide T3) (unhide HN) hl (by omega)
  rw [← hp0] at C
  have C := hide C
  have HM : Hid ((t[p0]? = some 125 ∧ k = p0 + 1) ∨ ∃ f, f ≤ n ∧ MW t f p0 k) := by
    have := unhide hM
    unfold Mem at this
    rw [← hp0, unhide HN] at this
    exact this
  clear hM hp0
  simp only []
  go_wp2_with fail
  refine (unhide C).mono ?_
  rintro e w' ⟨hw, rfl⟩
  have hw := hw.symm
  subst hw
  simp only []
  clear C
  rcases unhide HM with ⟨h125, rfl⟩ | ⟨f, hf, hMW⟩
  · have c1 : w3.cell? ⟨g, 0 + p0, none⟩ = some (.int .u8 125) := (unhide T3).2 p0 125 h125
    have c1' : w3.cell? ⟨g, p0, none⟩ = some (.int .u8 125) := by simpa using c1
    have h0n : p0 < n := by have := lt_of_at h125; have := unhide HN; omega
    have j1 : (p0 : Int) < (n : Int) := by omega
    clear h125 HM
    go_wp2
    all_goals first
      | (go_ret; exact ⟨rfl, (unhide K3).toBelow⟩)
      | (exfalso; omega)
  have hq := hMW.quote
  have c1 : w3.cell? ⟨g, 0 + p0, none⟩ = some (.int .u8 34) := (unhide T3).2 p0 34 hq
  have c1' : w3.cell? ⟨g, p0, none⟩ = some (.int .u8 34) := by simpa using c1
  have h0n : p0 < n := by have := lt_of_at hq; have := unhide HN; omega
  have j1 : (p0 : Int) < (n : Int) := by omega
  have W0 := hide hMW
  clear hq hMW HM
  go_wp2
  go_loopw [7, 8] (fun x y wr => ∃ q it f : Nat, x = .int .i64 q ∧ y = .int .i64 it ∧ it + f ≤ n ∧ MW t f q k ∧ Kp [] w wr ∧ Txt wr g 0 t) (fun _ y _ => n - (intOf y).toNat)
  case atStart => exact ⟨p0, 0, f, rfl, rfl, by omega, unhide W0, unhide K3, unhide T3⟩
  case round =>
    obtain ⟨q, it, f, rfl, rfl, hit, hMW, hK, hT⟩ := hrel
    cases f with
    | zero => exact hMW.elim
    | succ f =>
    obtain ⟨k1, e', hS, h58, h2n, hSk, hend⟩ := hMW
    have HK := hide hK
    have TR := hide hT
    have hS1 := hS.1
    have cq : wr.cell? ⟨g, 0 + q, none⟩ = some (.int .u8 34) := hT.2 q 34 hS1
    have cq' : wr.cell? ⟨g, q, none⟩ = some (.int .u8 34) := by simpa using cq
    have hqn : q < n := by have := lt_of_at hS1; have := unhide HN; omega
    have jq : (q : Int) < (n : Int) := by omega
    have jq0 : ¬ (q : Int) < 0 := by omega
    have jit : (it : Int) < (n : Int) := by omega
    have hk1 := hS.le
    have hk1n : k1 ≤ n := by have := unhide HN; omega
    have jk1 : ¬ (k1 : Int) < 0 := by omega
    have C := hide (zzStr15 g 0 n n q k1 t wr hT (unhide HN) hl hS)
    have HEND := hide hend
    have HSK := hide hSk
    have H58 := hide h58
    have h2n' : ws t (ws t k1 + 1) < n := by have := unhide HN; omega
    have hse := hSk.le
    have hen : e' ≤ n := by have := unhide HN; omega
    have hend_n : ws t e' < n := by
      have hN := unhide HN
      rcases hend with ⟨h, _⟩ | ⟨h, _⟩
      · have := lt_of_at h; omega
      · have := lt_of_at h; omega
    obtain ⟨i1, hi1⟩ : ∃ i1, i1 = ws t k1 := ⟨_, rfl⟩
    obtain ⟨i2, hi2⟩ : ∃ i2, i2 = ws t (ws t k1 + 1) := ⟨_, rfl⟩
    obtain ⟨i3, hi3⟩ : ∃ i3, i3 = ws t e' := ⟨_, rfl⟩
    have h1n : i1 < n := by rw [hi1]; have := lt_of_at h58; have := unhide HN; omega
    rw [← hi2] at h2n'
    rw [← hi3] at hend_n
    have HI1 := hide hi1
    have HI2 := hide hi2
    have HI3 := hide hi3
    clear hK hT hS hS1 hk1 hend hSk h58 h2n hse hi1 hi2 hi3
    go_wp2_with fail
    refine (unhide C).mono ?_
    clear C
    rintro e v1 ⟨rfl, kv1⟩
    have KA := hide ((unhide HK).trans kv1)
    have TA := hide ((unhide TR).keep kv1)
    clear kv1 HK TR
    have C := ws14 g 0 n n k1 t v1 (unhide TA) (unhide HN) hl hk1n
    rw [← unhide HI1] at C
    have C := hide C
    simp only []
    go_wp2_with fail
    refine (unhide C).mono ?_
    rintro e w' ⟨hw, rfl⟩
    have hw := hw.symm
    subst hw
    simp only []
    clear C
    have ca : v1.cell? ⟨g, 0 + i1, none⟩ = some (.int .u8 58) := (unhide TA).2 i1 58 (by rw [unhide HI1]; exact unhide H58)
    have ca' : v1.cell? ⟨g, i1, none⟩ = some (.int .u8 58) := by simpa using ca
    have ja : (i1 : Int) < (n : Int) := by omega
    have C := ws14 g 0 n n (i1 + 1) t v1 (unhide TA) (unhide HN) hl (by omega)
    rw [show ws t (i1 + 1) = i2 by rw [unhide HI2, ← unhide HI1]] at C
    have C := hide C
    go_wp2_with fail
    refine (unhide C).mono ?_
    rintro e w' ⟨hw, rfl⟩
    have hw := hw.symm
    subst hw
    simp only []
    clear C
    have jb : (i2 : Int) < (n : Int) := by omega
    have C := hide (zzSkip11 g 0 n n i2 e' t v1 (unhide TA) (unhide HN) hl (by rw [unhide HI2]; exact unhide HSK))
    go_wp2_with fail
    refine (unhide C).mono ?_
    clear C
    rintro e v2 ⟨rfl, kv2⟩
    have KB := hide ((unhide KA).trans kv2)
    have TB := hide ((unhide TA).keep kv2)
    have je : ¬ (e' : Int) < 0 := by omega
    clear kv2 KA TA ca ca' cq cq'
    have C := ws14 g 0 n n e' t v2 (unhide TB) (unhide HN) hl hen
    rw [← unhide HI3] at C
    have C := hide C
    simp only []
    go_wp2_with fail
    refine (unhide C).mono ?_
    rintro e w' ⟨hw, rfl⟩
    have hw := hw.symm
    subst hw
    simp only []
    clear C
    have jc : (i3 : Int) < (n : Int) := by omega
    rcases unhide HEND with ⟨h, hk⟩ | ⟨h, hW⟩
    · rw [← unhide HI3] at h hk
      subst hk
      have cb : v2.cell? ⟨g, 0 + i3, none⟩ = some (.int .u8 125) := (unhide TB).2 i3 125 h
      have cb' : v2.cell? ⟨g, i3, none⟩ = some (.int .u8 125) := by simpa using cb
      clear h HEND
      go_wp2
      all_goals first
        | (go_ret; exact ⟨rfl, (unhide KB).toBelow⟩)
        | (exfalso; omega)
    · rw [← unhide HI3] at h hW
      have cb : v2.cell? ⟨g, 0 + i3, none⟩ = some (.int .u8 44) := (unhide TB).2 i3 44 h
      have cb' : v2.cell? ⟨g, i3, none⟩ = some (.int .u8 44) := by simpa using cb
      obtain ⟨i4, hi4⟩ : ∃ i4, i4 = ws t (i3 + 1) := ⟨_, rfl⟩
      rw [← hi4] at hW
      have C := ws14 g 0 n n (i3 + 1) t v2 (unhide TB) (unhide HN) hl (by omega)
      rw [← hi4] at C
      have C := hide C
      have HW := hide hW
      clear h hi4 hW HEND
      go_wp2_with fail
      refine (unhide C).mono ?_
      rintro e w' ⟨hw, rfl⟩
      have hw := hw.symm
      subst hw
      simp only []
      clear C
      go_wp2
      go_roundw
      case rel => exact ⟨i4, it + 1, f, rfl, by go_num, by omega, unhide HW, unhide KB, unhide TB⟩
      case measure => simp [intOf]; omega
end Go.Proofs.Qxb6601492a
