/-
  FnEmptiedHoldsNoRows (8): from the making of the batch on (region 20).
-/
import Derived.Test.Qxb6001672aEmE
set_option linter.unusedSimpArgs false
set_option linter.unusedVariables false
namespace Go.Proofs.Qxb6001672a
open Go.RowKit

set_option maxRecDepth 1000000 in
set_option maxHeartbeats 2000000 in
theorem emP2 (n cfa B wB tB mB n1 m : Nat) (probe : Int) (fq : Option Addr) (fa : List Int) (w0 u : World) (u0 u1 u4 u5 u6 u7 u8 u11 u13 u14 u15 u16 u17 u18 u19 u20 u21 u22 u23 u24 u25 u26 u27 u28 u29 u30 u31 u32 u33 u34 u35 u36 u37 u38 u39 u40 u41 u42 u43 u44 u45 u46 u47 u48 u49 u50 u51 u52 u53 u54 u55 u56 u57 u58 u59 u60 u61 u62 u63 u64 u65 u66 u67 u68 u69 u70 u71 u72 u73 u74 u75 u76 u77 u78 u79 u80 u81 u82 u83 u84 u85 u86 u87 u88 u89 u90 u91 u92 u93 u94 u95 u96 u97 u98 u99 u100 u101 u102 u103 u104 u105 u106 u107 u108 u109 u110 u111 u112 u113 u114 u115 u116 u117 u118 u119 u120 u121 u122 u123 u124 u125 u126 u127 u128 u129 u130 u131 u132 u133 u134 : Value)
    (hfa : Src u fq (fa.map (Value.int .i64))) (lfa : fa.length = n) (hn : n ≤ 1024) (hfb : 0 < n → ∀ a, fq = some a → a.block < B) (hw : Below w0.heap.size w0 u) (hw0 : w0.heap.size ≤ B) (hBu : B ≤ u.heap.size)
    (b1 : B ≤ wB ∧ wB < u.heap.size) (b2 : B ≤ tB ∧ tB < u.heap.size) (b3 : B ≤ mB ∧ mB < u.heap.size) (m1 : Rm u 53 (some ⟨wB, 0, none⟩) n1) (m2 : Rm u 48 (some ⟨tB, 0, none⟩) n1) (m3 : Rm u 9 (some ⟨mB, 0, none⟩) m) (l1 : n1 ≤ 200) (l2 : m ≤ 200)
    (K : Act → World → Prop) (hK : ∀ a w', Code.wp Try.prog (restOf2 20 Try.f8) (bodyPost Try.prog Try.f8 (RetT w0)) a w' → K a w') :
    Code.wp Try.prog (headOf2 20 Try.f8) (Exit.then K (bodyPost Try.prog Try.f8 (RetT w0))) ⟨#[u0, u1, .slice fq n cfa, .int .i64 probe, u4, u5, u6, u7, u8, .slice (some ⟨wB, 0, none⟩) n1 n1, .slice (some ⟨tB, 0, none⟩) n1 n1, u11, .slice (some ⟨mB, 0, none⟩) m m, u13, u14, u15, u16, u17, u18, u19, u20, u21, u22, u23, u24, u25, u26, u27, u28, u29, u30, u31, u32, u33, u34, u35, u36, u37, u38, u39, u40, u41, u42, u43, u44, u45, u46, u47, u48, u49, u50, u51, u52, u53, u54, u55, u56, u57, u58, u59, u60, u61, u62, u63, u64, u65, u66, u67, u68, u69, u70, u71, u72, u73, u74, u75, u76, u77, u78, u79, u80, u81, u82, u83, u84, u85, u86, u87, u88, u89, u90, u91, u92, u93, u94, u95, u96, u97, u98, u99, u100, u101, u102, u103, u104, u105, u106, u107, u108, u109, u110, u111, u112, u113, u114, u115, u116, u117, u118, u119, u120, u121, u122, u123, u124, u125, u126, u127, u128, u129, u130, u131, u132, u133, u134], []⟩ u := by
  conv at hK => enter [a, w', 1, 2]; whnf
  conv => arg 2; whnf
  have C := hide (newRows29 none none (some ⟨wB, 0, none⟩) (some ⟨tB, 0, none⟩) (some ⟨mB, 0, none⟩) 0 0 n1 n1 m 0 0 n1 n1 m 1 1 1 u)
  have HFA := hide hfa
  have HL := hide lfa
  have HFB := hide hfb
  have HW := hide hw
  have BB := hide (And.intro b1 (And.intro b2 b3))
  have MM := hide (And.intro m1 (And.intro m2 m3))
  clear hfa lfa hfb hw b1 b2 b3 m1 m2 m3
  go_wp2_with fail
  refine (unhide C).mono ?_
  clear C
  rintro e u1 ⟨rfl, _, hr, hbel⟩
  obtain ⟨rB, hrB⟩ : ∃ rB, rB = u.heap.size + 1 := ⟨_, rfl⟩
  rw [← hrB] at hr ⊢
  obtain ⟨lp, hlp⟩ : ∃ lp, lp = Value.pointer (some ⟨u.heap.size, 0, none⟩) := ⟨_, rfl⟩
  rw [← hlp] at hr
  have F0 : Hid (FI u1 rB u1.heap.size lp (.slice (some ⟨wB, 0, none⟩) n1 n1) (.slice (some ⟨tB, 0, none⟩) n1 n1) (.slice (some ⟨mB, 0, none⟩) m m) fa u1 0 (.slice none 0 0) []) := ⟨hr, World.ownsRow_nil _ _ _ _, Kp.refl _ _, Nat.le_refl _, hr.lt, Nat.le_refl _, fun j hj => by omega⟩
  have FA := hide ((unhide HFA).below hbel (fun h0 a ha => Nat.lt_of_lt_of_le ((unhide HFB) (by simpa [unhide HL] using h0) a ha) hBu))
  have HB := hide hbel
  have HRB := hide hrB
  clear hr hbel hrB hlp HFA
  simp only []
  go_wp2
  go_loopw [15] (fun i wr => ∃ k v xs, k ≤ n ∧ i = .int .i64 (k : Nat) ∧ FI u1 rB u1.heap.size lp (.slice (some ⟨wB, 0, none⟩) n1 n1) (.slice (some ⟨tB, 0, none⟩) n1 n1) (.slice (some ⟨mB, 0, none⟩) m m) fa wr k v xs) (fun i _ => n - (intOf i).toNat)
  case atStart => exact ⟨0, _, _, Nat.zero_le _, rfl, unhide F0⟩
  case round =>
    obtain ⟨k, v, xs, hk, rfl, hI⟩ := hrel
    have I := hide hI
    have FR := hide ((unhide FA).kp' hI.kp (fun h0 a ha => by have := (unhide HFB) (by simpa [unhide HL] using h0) a ha; have := unhide HRB; simp; omega))
    clear hI F0
    by_cases hlt : k < n
    · obtain ⟨y, hy⟩ := getElem?_lt_some fa k (by have := unhide HL; omega)
      obtain ⟨b, o, rfl, _, hc⟩ := (unhide FR) (by simp [unhide HL]; omega)
      have c1 : wr.cell? ⟨b, o + k, none⟩ = some (.int .i64 y) := hc _ _ (by simp [hy])
      have i1 : (k : Int) < (n : Int) := by omega
      have TF := three_facts wr
      have C := hide (addFound31 rB u1.heap.size k lp (.slice (some ⟨wB, 0, none⟩) n1 n1) (.slice (some ⟨tB, 0, none⟩) n1 n1) (.slice (some ⟨mB, 0, none⟩) m m) v xs (some ⟨wr.heap.size, 0, none⟩) (some ⟨wr.heap.size + 1, 0, none⟩) (some ⟨wr.heap.size + 1 + 1, 0, none⟩) 1 1 1 1 1 1 y true (three wr) (TF.1.blk (unhide I).r (by simp)) ((((unhide I).o.alloc _).alloc _).alloc _) (by omega) (by have := (unhide I).bs; have := TF.2.1; omega) (unhide I).rb)
      have HY := hide hy
      have S3 : Hid (three wr = ((wr.alloc (.cells #[.int .i64 1] 2)).alloc (.cells #[.string { data := #[115] }] 9)).alloc (.cells #[.bool true] 4)) := rfl
      clear hc hy TF FR
      go_wp2_with fail
      rw [← unhide S3]
      refine (unhide C).mono ?_
      clear C
      intro e w' hA
      obtain ⟨rfl, v', xs', hF⟩ := (unhide I).step (unhide HY) hA
      have F' := hide hF
      clear hA hF I S3
      simp only []
      go_wp2
      go_roundw
      case rel => exact ⟨k + 1, v', xs', by omega, by go_num, unhide F'⟩
      case measure => simp [intOf]; omega
    · obtain rfl : k = n := by omega
      have hBB := unhide BB
      have hMM := unhide MM
      obtain ⟨pf, cf, g, rfl, hO, hfnd⟩ := (unhide I).ro (unhide HB) hBu hBB.1 hBB.2.1 hBB.2.2 (by have := unhide HRB; omega) hMM.1 hMM.2.1 hMM.2.2 l1 l2 hn (unhide HL)
      have FO : Hid (∀ c : Int, Calls Try.prog 34 #[.pointer (some ⟨rB, 0, none⟩), .int .i64 c] wr (Found wr g c fa)) := fun c =>
        foundOf34 rB g cf pf c fa wr (by have := unhide HL; omega) (by have := hO.hR.cell (i := 4) rfl; rw [unhide HL]; exact this) hfnd
      have HO := hide hO
      have kI := (unhide I).kp
      have HWr := hide ((unhide HW).trans (((⟨(unhide HB).os, (unhide HB).tape, (unhide HB).output, (unhide HB).size, fun i hi => (unhide HB).block i (by omega)⟩ : Below w0.heap.size u u1)).trans ⟨kI.os, kI.tape, kI.output, kI.size, fun i hi => kI.block i (by have := (unhide HB).size; omega) (by have := unhide HRB; simp; omega)⟩))
      have CT := hide (contains35 fq k cfa fa probe wr (by omega) (unhide HL) (unhide FR))
      clear hBB hMM hO hfnd kI I HB HW BB MM FA
      go_wp2
      go_loop [16] (fun i => ∃ j : Nat, j ≤ k ∧ i = .int .i64 j) (fun i => k - (intOf i).toNat)
      case atStart => exact ⟨0, Nat.zero_le _, rfl⟩
      case round =>
        obtain ⟨j, hj, rfl⟩ := hrel
        by_cases hjl : j < k
        · obtain ⟨y, hy⟩ := getElem?_lt_some fa j (by have := unhide HL; omega)
          obtain ⟨b, o, rfl, _, hc⟩ := (unhide FR) (by simp [unhide HL]; omega)
          have c1 : wr.cell? ⟨b, o + j, none⟩ = some (.int .i64 y) := hc _ _ (by simp [hy])
          obtain ⟨ad, had⟩ := foundAt_some g y fa (List.mem_of_getElem? hy) 0
          have HAD := hide had
          have i1 : (j : Int) < (k : Int) := by omega
          clear hc hy had
          go_wp2_with fail
          refine ((unhide FO) y).mono ?_
          rintro e x' ⟨hx', rfl⟩
          have hx' := hx'.symm
          subst hx'
          rw [unhide HAD]
          simp only []
          go_wp2
          go_round
          case rel => exact ⟨j + 1, by omega, by go_num⟩
          case measure => simp [intOf]; omega
        · by_cases hmem : probe ∈ fa
          · obtain ⟨ad, had⟩ := foundAt_some g probe fa hmem 0
            have HAD := hide had
            have HCT : Hid (fa.contains probe = true) := by show _ = _; simpa using hmem
            clear had hmem
            go_wp2_with fail
            refine ((unhide FO) probe).mono ?_
            rintro e x' ⟨hx', rfl⟩
            have hx' := hx'.symm
            subst hx'
            rw [unhide HAD]
            simp only []
            go_wp2_with fail
            refine (unhide CT).mono ?_
            rintro e x' ⟨hx', rfl⟩
            have hx' := hx'.symm
            subst hx'
            rw [unhide HCT]
            simp only []
            go_upto_region 32 with fail
            refine emP1 k cfa B _ rB g k n1 n1 m n1 n1 m cf probe lp fq _ _ _ pf fa w0 wr _ _ _ _ _ _ _ _ _ _ _ _ _ _ _ _ _ _ _ _ _ _ _ _ _ _ _ _ _ _ _ _ _ _ _ _ _ _ _ _ _ _ _ _ _ _ _ _ _ _ _ _ _ _ _ _ _ _ _ _ _ _ _ _ _ _ _ _ _ _ _ _ _ _ _ _ _ _ _ _ _ _ _ _ _ _ _ _ _ _ _ _ _ _ _ _ _ _ _ _ _ _ _ _ _ _ _ _ _ _ _ _ _ _ _ _ _ _ _ _ _ _ _ _ _ _ _ _ _ _ _ _ (unhide HO) (unhide FR) (unhide HL) hn (unhide HFB) (unhide HWr) hw0 _ ?_
            assumption
          · have HAD := hide (foundAt_none g probe fa hmem 0)
            have HCT : Hid (fa.contains probe = false) := by show _ = _; simpa using hmem
            clear hmem
            go_wp2_with fail
            refine ((unhide FO) probe).mono ?_
            rintro e x' ⟨hx', rfl⟩
            have hx' := hx'.symm
            subst hx'
            rw [unhide HAD]
            simp only []
            go_wp2_with fail
            refine (unhide CT).mono ?_
            rintro e x' ⟨hx', rfl⟩
            have hx' := hx'.symm
            subst hx'
            rw [unhide HCT]
            simp only []
            go_upto_region 32 with fail
            refine emP1 k cfa B _ rB g k n1 n1 m n1 n1 m cf probe lp fq _ _ _ pf fa w0 wr _ _ _ _ _ _ _ _ _ _ _ _ _ _ _ _ _ _ _ _ _ _ _ _ _ _ _ _ _ _ _ _ _ _ _ _ _ _ _ _ _ _ _ _ _ _ _ _ _ _ _ _ _ _ _ _ _ _ _ _ _ _ _ _ _ _ _ _ _ _ _ _ _ _ _ _ _ _ _ _ _ _ _ _ _ _ _ _ _ _ _ _ _ _ _ _ _ _ _ _ _ _ _ _ _ _ _ _ _ _ _ _ _ _ _ _ _ _ _ _ _ _ _ _ _ _ _ _ _ _ _ _ (unhide HO) (unhide FR) (unhide HL) hn (unhide HFB) (unhide HWr) hw0 _ ?_
            assumption
end Go.Proofs.Qxb6001672a
