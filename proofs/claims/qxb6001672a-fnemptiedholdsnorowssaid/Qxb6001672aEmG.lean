/-
  FnEmptiedHoldsNoRows (8): THE WALK.
-/
import Derived.Test.Qxb6001672aEmF
set_option linter.unusedSimpArgs false
set_option linter.unusedVariables false
namespace Go.Proofs.Qxb6001672a
open Go.RowKit

theorem info53e : (Try.prog.info? 53).map (fun i => (i.zero, i.size, i.bytes)) = some (some (.slice none 0 0), 1, 24) := by kernel_rfl
theorem info48e : (Try.prog.info? 48).map (fun i => (i.zero, i.size, i.bytes)) = some (some (.slice none 0 0), 1, 24) := by kernel_rfl
/-- A plain row of n cells. -/
def RowN (w : World) (g n : Nat) (e : TypeId) : Prop := ∃ xs, Blk w g xs e ∧ xs.length = n
theorem RowN.rm {w : World} {g n : Nat} {e : TypeId} (h : RowN w g n e) : Rm w e (some ⟨g, 0, none⟩) n := fun _ _ => by
  obtain ⟨xs, h1, h2⟩ := h
  exact ⟨g, xs, rfl, h1, h2⟩
theorem RowN.made (w : World) (z : Value) (n : Nat) (e : TypeId) : RowN (w.alloc (.cells (madeCells #[z] n) e)) w.heap.size n e := by
  have := Blk.new w (madeCells #[z] n) e
  rw [made_list] at this
  exact ⟨_, this, by simp⟩
theorem RowN.set {w : World} {g n : Nat} {e : TypeId} (h : RowN w g n e) (i : Nat) (v : Value) : RowN (w.setCell ⟨g, i, none⟩ v) g n e := by
  obtain ⟨xs, h1, h2⟩ := h
  exact ⟨_, h1.set i v, by simpa using h2⟩
theorem RowN.kp {S : List Nat} {w w' : World} {g n : Nat} {e : TypeId} (h : RowN w g n e) (k : Kp S w w') (hg : g ∉ S) : RowN w' g n e := by
  obtain ⟨xs, h1, h2⟩ := h
  exact ⟨xs, k.blk h1 hg, h2⟩
theorem RowN.at {w : World} {g n : Nat} {e : TypeId} (h : RowN w g n e) {i : Nat} (hi : i < n) : (∃ v, w.cell? ⟨g, i, none⟩ = some v) ∧ w.frozen? ⟨g, i, none⟩ = false := by
  obtain ⟨xs, h1, h2⟩ := h
  obtain ⟨v, hv⟩ := getElem?_lt_some xs i (by omega)
  exact ⟨⟨v, h1.cell hv⟩, h1.frozen i⟩
theorem RowN.lt {w : World} {g n : Nat} {e : TypeId} (h : RowN w g n e) : g < w.heap.size := by
  obtain ⟨xs, h1, _⟩ := h
  exact h1.lt

set_option maxRecDepth 1000000 in
set_option maxHeartbeats 2000000 in
theorem emP3 (n cfa B wB tB n1 m : Nat) (probe : Int) (fq : Option Addr) (fa : List Int) (w0 u : World) (u0 u4 u5 u6 u7 u8 u11 u12 u13 u14 u15 u16 u17 u18 u19 u20 u21 u22 u23 u24 u25 u26 u27 u28 u29 u30 u31 u32 u33 u34 u35 u36 u37 u38 u39 u40 u41 u42 u43 u44 u45 u46 u47 u48 u49 u50 u51 u52 u53 u54 u55 u56 u57 u58 u59 u60 u61 u62 u63 u64 u65 u66 u67 u68 u69 u70 u71 u72 u73 u74 u75 u76 u77 u78 u79 u80 u81 u82 u83 u84 u85 u86 u87 u88 u89 u90 u91 u92 u93 u94 u95 u96 u97 u98 u99 u100 u101 u102 u103 u104 u105 u106 u107 u108 u109 u110 u111 u112 u113 u114 u115 u116 u117 u118 u119 u120 u121 u122 u123 u124 u125 u126 u127 u128 u129 u130 u131 u132 u133 u134 : Value)
    (hfa : Src u fq (fa.map (Value.int .i64))) (lfa : fa.length = n) (hn : n ≤ 1024) (hfb : 0 < n → ∀ a, fq = some a → a.block < B) (hw : Below w0.heap.size w0 u) (hw0 : w0.heap.size ≤ B) (hBu : B ≤ u.heap.size)
    (b1 : B ≤ wB) (b2 : B ≤ tB) (r1 : RowN u wB n1 53) (r2 : RowN u tB n1 48) (l1 : n1 ≤ 200) (l2 : m ≤ 200)
    (K : Act → World → Prop) (hK : ∀ a w', Code.wp Try.prog (restOf2 15 Try.f8) (bodyPost Try.prog Try.f8 (RetT w0)) a w' → K a w') :
    Code.wp Try.prog (headOf2 15 Try.f8) (Exit.then K (bodyPost Try.prog Try.f8 (RetT w0))) ⟨#[u0, .int .i64 m, .slice fq n cfa, .int .i64 probe, u4, u5, u6, u7, u8, .slice (some ⟨wB, 0, none⟩) n1 n1, .slice (some ⟨tB, 0, none⟩) n1 n1, u11, u12, u13, u14, u15, u16, u17, u18, u19, u20, u21, u22, u23, u24, u25, u26, u27, u28, u29, u30, u31, u32, u33, u34, u35, u36, u37, u38, u39, u40, u41, u42, u43, u44, u45, u46, u47, u48, u49, u50, u51, u52, u53, u54, u55, u56, u57, u58, u59, u60, u61, u62, u63, u64, u65, u66, u67, u68, u69, u70, u71, u72, u73, u74, u75, u76, u77, u78, u79, u80, u81, u82, u83, u84, u85, u86, u87, u88, u89, u90, u91, u92, u93, u94, u95, u96, u97, u98, u99, u100, u101, u102, u103, u104, u105, u106, u107, u108, u109, u110, u111, u112, u113, u114, u115, u116, u117, u118, u119, u120, u121, u122, u123, u124, u125, u126, u127, u128, u129, u130, u131, u132, u133, u134], []⟩ u := by
  conv at hK => enter [a, w', 1, 2]; whnf
  conv => arg 2; whnf
  have hmk := fun w => run_make_row' (P := Try.prog) 48 9 (.string ByteArray.empty) 16 Try.underlying48 info9 rfl .i64 .i64 m (by omega) (by omega) w
  obtain ⟨v, hv⟩ : ∃ v, v = u.alloc (.cells (madeCells #[.string ByteArray.empty] m) 9) := ⟨_, rfl⟩
  have kv : Kp [] u v := by rw [hv]; exact (Kp.refl _ _).alloc _
  have rv : RowN v u.heap.size m 9 := by rw [hv]; exact RowN.made u _ m 9
  have RV := hide rv
  have KV := hide kv
  have HV := hide hv
  have HFA := hide hfa
  have HL := hide lfa
  have HFB := hide hfb
  have HW := hide hw
  have RA := hide r1
  have RB := hide r2
  clear rv kv hv hfa lfa hfb hw r1 r2
  go_wp2
  rw [← unhide HV]
  clear HV
  go_loopw [13] (fun i wr => ∃ k : Nat, k ≤ m ∧ i = .int .i64 k ∧ RowN wr u.heap.size m 9 ∧ Kp [u.heap.size] v wr) (fun i _ => m - (intOf i).toNat)
  case atStart => exact ⟨0, Nat.zero_le _, rfl, unhide RV, Kp.refl _ _⟩
  case round =>
    obtain ⟨k, hk, rfl, hr, hkp⟩ := hrel
    by_cases hlt : k < m
    · obtain ⟨⟨y, c1⟩, f1⟩ := hr.at hlt
      have i1 : (k : Int) < (m : Int) := by omega
      have HR := hide hr
      have HKP := hide hkp
      clear hr hkp
      go_wp2
      go_roundw
      case rel => exact ⟨k + 1, by omega, by go_num, (unhide HR).set k _, (unhide HKP).setCell (.inl (by simp)) _⟩
      case measure => simp [intOf]; omega
    · have ku : Kp [] u wr := (unhide KV).then hkp (fun i hi => by simp at hi; right; omega)
      have FX := hide ((unhide HFA).keep ku)
      have WX := hide ((unhide HW).trans (⟨ku.os, ku.tape, ku.output, ku.size, fun i hi => ku.block i (by have := (unhide HW).size; omega) (by simp)⟩ : Below w0.heap.size u wr))
      have RA' := hide ((unhide RA).kp ku (by simp))
      have RB' := hide ((unhide RB).kp ku (by simp))
      have RC' := hide hr
      have hsz := ku.size
      clear ku hr hkp RV KV
      go_upto_region 20 with fail
      refine emP2 n cfa B wB tB u.heap.size n1 m probe fq fa w0 wr _ _ _ _ _ _ _ _ _ _ _ _ _ _ _ _ _ _ _ _ _ _ _ _ _ _ _ _ _ _ _ _ _ _ _ _ _ _ _ _ _ _ _ _ _ _ _ _ _ _ _ _ _ _ _ _ _ _ _ _ _ _ _ _ _ _ _ _ _ _ _ _ _ _ _ _ _ _ _ _ _ _ _ _ _ _ _ _ _ _ _ _ _ _ _ _ _ _ _ _ _ _ _ _ _ _ _ _ _ _ _ _ _ _ _ _ _ _ _ _ _ _ _ _ _ _ _ _ _ _ (unhide FX) (unhide HL) hn (unhide HFB) (unhide WX) hw0 (by omega) ⟨b1, (unhide RA').lt⟩ ⟨b2, (unhide RB').lt⟩ ⟨hBu, (unhide RC').lt⟩ (unhide RA').rm (unhide RB').rm (unhide RC').rm l1 l2 _ ?_
      assumption

set_option maxRecDepth 1000000 in
set_option maxHeartbeats 2000000 in
theorem emptied8 (nr rm probe : Int) (p : Option Addr) (n c : Nat) (fa : List Int) (w : World) (hp : Src w p (fa.map (Value.int .i64))) (hl : fa.length = n) (hp0 : p = none → n = 0 ∧ c = 0) :
    Calls Try.prog 8 #[.int .i64 nr, .int .i64 rm, .slice p n c, .int .i64 probe] w (RetT w) := by
  have Z := hide (zzB32 nr rm probe p n c w)
  have HP := hide hp
  have HL := hide hl
  have HP0 := hide hp0
  clear hp hl hp0
  go_enter Try.func8, Try.ntmps8
  go_wp2_with fail
  refine (unhide Z).mono ?_
  clear Z
  rintro e w' ⟨hw, b, rfl⟩
  have hw := hw.symm
  subst hw
  simp only []
  cases b
  · go_wp2
    go_ret
    exact ⟨rfl, Below.refl _ _⟩
  by_cases h1 : n ≤ 1024
  case neg =>
    go_wp2
    all_goals first
      | (go_ret; exact ⟨rfl, Below.refl _ _⟩)
      | (exfalso; omega)
  have i1 : (n : Int) ≤ 1024 := by omega
  by_cases h2 : 0 ≤ nr ∧ nr ≤ 200
  case neg =>
    go_wp2
    all_goals first
      | (go_ret; exact ⟨rfl, Below.refl _ _⟩)
      | (exfalso; omega)
  obtain ⟨h2, h3⟩ := h2
  by_cases h4 : 0 ≤ rm ∧ rm ≤ 200
  case neg =>
    go_wp2
    all_goals first
      | (go_ret; exact ⟨rfl, Below.refl _ _⟩)
      | (exfalso; omega)
  obtain ⟨h4, h5⟩ := h4
  obtain ⟨n1, hn1⟩ := Int.eq_ofNat_of_zero_le h2
  obtain ⟨m, hm⟩ := Int.eq_ofNat_of_zero_le h4
  subst hn1
  subst hm
  have C := hide (clone33 p n c (fa.map (Value.int .i64)) w (by omega) (by simpa using unhide HL) (unhide HP) (unhide HP0) (fun v hv => by obtain ⟨x, _, rfl⟩ := List.mem_map.1 hv; rfl))
  go_wp2_with fail
  refine (unhide C).mono ?_
  clear C
  rintro e u ⟨fq, rfl, hfq, ku⟩
  rw [List.length_map, unhide HL]
  have FA : Hid (Src u fq (fa.map (Value.int .i64))) := fun h0 => by
    obtain ⟨rfl, hb⟩ := hfq h0
    exact hb.src h0
  have HFB : Hid (0 < n → ∀ a, fq = some a → a.block < u.heap.size) := fun h0 a ha => by
    obtain ⟨rfl, hb⟩ := hfq (by simpa [unhide HL] using h0)
    cases ha
    exact hb.lt
  have KU := hide ku
  clear hfq ku HP HP0
  have hk1 := fun w => run_make_row' (P := Try.prog) 51 53 (.slice none 0 0) 24 Try.underlying51 info53e rfl .i64 .i64 n1 (by omega) (by omega) w
  have hk2 := fun w => run_make_row' (P := Try.prog) 52 48 (.slice none 0 0) 24 Try.underlying52 info48e rfl .i64 .i64 n1 (by omega) (by omega) w
  obtain ⟨v, hv⟩ : ∃ v, v = (u.alloc (.cells (madeCells #[.slice none 0 0] n1) 53)).alloc (.cells (madeCells #[.slice none 0 0] n1) 48) := ⟨_, rfl⟩
  have kv : Kp [] u v := by rw [hv]; exact ((Kp.refl _ _).alloc _).alloc _
  have rA : RowN v u.heap.size n1 53 := by rw [hv]; exact (RowN.made u _ n1 53).kp ((Kp.refl [] _).alloc _) (by simp)
  have rB : RowN v (u.heap.size + 1) n1 48 := by
    rw [hv]
    have := RowN.made (u.alloc (.cells (madeCells #[.slice none 0 0] n1) 53)) (.slice none 0 0) n1 48
    simpa using this
  have KV := hide kv
  have RA := hide rA
  have RB := hide rB
  have HV := hide hv
  clear kv rA rB hv
  simp only []
  go_wp2
  rw [← unhide HV]
  clear HV
  go_loopw [11] (fun i wr => ∃ k : Nat, k ≤ n1 ∧ i = .int .i64 k ∧ RowN wr u.heap.size n1 53 ∧ RowN wr (u.heap.size + 1) n1 48 ∧ Kp [u.heap.size, u.heap.size + 1] v wr) (fun i _ => n1 - (intOf i).toNat)
  case atStart => exact ⟨0, Nat.zero_le _, rfl, unhide RA, unhide RB, Kp.refl _ _⟩
  case round =>
    obtain ⟨k, hk, rfl, r1, r2, hkp⟩ := hrel
    by_cases hlt : k < n1
    · have i2 : (k : Int) < (n1 : Int) := by omega
      obtain ⟨⟨y1, c1⟩, f1⟩ := r1.at hlt
      obtain ⟨⟨y2, c2⟩, f2⟩ := r2.at hlt
      have l1 := r1.lt
      have l2 := r2.lt
      have R1 := hide r1
      have R2 := hide r2
      have HKP := hide hkp
      clear r1 r2 hkp
      go_wp2
      go_roundw
      case rel =>
        refine ⟨k + 1, by omega, by go_num, ?_, ?_, ?_⟩
        · exact (((unhide R1).set k _).kp ((Kp.refl [u.heap.size + 1] _).setCell (p := ⟨u.heap.size + 1, k, none⟩) (.inl (by simp)) _) (by simp)).kp ((((Kp.refl [] _)).alloc _).alloc _) (by simp)
        · exact (((unhide R2).kp ((Kp.refl [u.heap.size] _).setCell (p := ⟨u.heap.size, k, none⟩) (.inl (by simp)) _) (by simp)).set k _).kp ((((Kp.refl [] _)).alloc _).alloc _) (by simp)
        · exact ((((unhide HKP).setCell (.inl (by simp)) _).setCell (.inl (by simp)) _).alloc _).alloc _
      case measure => simp [intOf]; omega
    · have ku : Kp [] u wr := (unhide KV).then hkp (fun i hi => by simp at hi; right; omega)
      have FX := hide ((unhide FA).keep ku)
      have kw := (unhide KU).trans ku
      have WX := hide (Kp.toBelow kw)
      have RA' := hide r1
      have RB' := hide r2
      have hsz := ku.size
      have hwu := (unhide KU).size
      clear ku kw r1 r2 hkp RA RB KV
      go_upto_region 15 with fail
      refine emP3 n n u.heap.size u.heap.size (u.heap.size + 1) n1 m probe fq fa w wr _ _ _ _ _ _ _ _ _ _ _ _ _ _ _ _ _ _ _ _ _ _ _ _ _ _ _ _ _ _ _ _ _ _ _ _ _ _ _ _ _ _ _ _ _ _ _ _ _ _ _ _ _ _ _ _ _ _ _ _ _ _ _ _ _ _ _ _ _ _ _ _ _ _ _ _ _ _ _ _ _ _ _ _ _ _ _ _ _ _ _ _ _ _ _ _ _ _ _ _ _ _ _ _ _ _ _ _ _ _ _ _ _ _ _ _ _ _ _ _ _ _ _ _ _ _ _ _ _ _ (unhide FX) (unhide HL) h1 (unhide HFB) (unhide WX) hwu hsz (Nat.le_refl _) (by omega) (unhide RA') (unhide RB') (by omega) (by omega) _ ?_
      assumption
end Go.Proofs.Qxb6001672a
