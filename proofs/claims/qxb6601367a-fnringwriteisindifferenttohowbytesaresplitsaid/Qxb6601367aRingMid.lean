/-
  FnRingWriteIsIndifferentToHowBytesAreSplit (8): THE WALK.
-/
import Derived.Test.Qxb6601367aRingC
set_option linter.unusedSimpArgs false
set_option linter.unusedVariables false
namespace Go.Proofs.Qxb6601367a
open Go.RowKit

def RetTrue (w : World) (e : Ending) (w' : World) : Prop := e = .returned (.bool true) ∧ Below w.heap.size w w'

theorem wrap64_range (x : Int) : -9223372036854775808 ≤ wrap64 x ∧ wrap64 x ≤ 9223372036854775807 := by unfold wrap64; omega
theorem wrap64_add (x a b : Int) : wrap64 (wrap64 (x + a) + b) = wrap64 (x + (a + b)) := by unfold wrap64; omega

/-- A row of the call's own, as a slice. -/
theorem own_src {w : World} {base n : Nat} {v : Value} {xs : List Value} (h : w.ownsRow base 5 1 v n xs) : ∃ p c, v = .slice p n c ∧ Src w p xs ∧ n ≤ c ∧ (p = none → n = 0 ∧ c = 0) ∧ ∀ a, p = some a → (Value.slice p n c).ownBlock = some a.block := by
  rcases h.2 with ⟨rfl, rfl⟩ | ⟨g, cap, cur, rfl, hb, hB, h1, h2, h3, h4⟩
  · have : xs = [] := List.eq_nil_of_length_eq_zero (by simpa using h.1)
    subst this
    exact ⟨none, 0, rfl, fun h => by simp at h, Nat.le_refl _, fun _ => ⟨rfl, rfl⟩, fun a h => by cases h⟩
  · refine ⟨_, _, rfl, ?_, h1, (fun h => by cases h), fun a h => by cases h; simp [Value.ownBlock]⟩
    have hB' : Blk w g cur.toList 5 := hB
    intro h0
    refine ⟨g, 0, rfl, hB'.lt, fun i v hv => ?_⟩
    rw [Nat.zero_add]
    apply hB'.cell
    have hi := (List.getElem?_eq_some_iff.1 hv).1
    rw [← h4, List.getElem?_take] at hv
    split at hv
    · exact hv
    · cases hv

theorem own_kp {S : List Nat} {w w' : World} {base n : Nat} {v : Value} {xs : List Value} (h : w.ownsRow base 5 1 v n xs) (k : Kp S w w') (hS : ∀ g, v.ownBlock = some g → g ∉ S) : w'.ownsRow base 5 1 v n xs := by
  refine ⟨h.1, ?_⟩
  rcases h.2 with h2 | ⟨g, cap, cur, rfl, hb, hB, h1⟩
  · exact .inl h2
  · refine .inr ⟨g, cap, cur, rfl, hb, ?_, h1⟩
    have hB' : Blk w g cur.toList 5 := hB
    exact k.blk hB' (hS g (by simp [Value.ownBlock]))

theorem one_of (xs : List Int) : ∀ v ∈ xs.map (Value.int .u8), v.oneCell' = true := fun v hv => by
  obtain ⟨x, _, rfl⟩ := List.mem_map.1 hv
  rfl

/-- A ring. -/
def RS (w : World) (base rB size : Nat) (bs : List Int) (nx : Nat) (wt : Int) (v : Value) : Prop :=
  Blk w rB [.int .i64 size, v, .int .i64 nx, .int .i64 wt] 50 ∧ w.ownsRow base 5 1 v bs.length (bs.map (Value.int .u8)) ∧ v.ownBlock ≠ some rB ∧ base ≤ rB

theorem RS.kp {S : List Nat} {w w' : World} {base rB size nx : Nat} {bs : List Int} {wt : Int} {v : Value} (h : RS w base rB size bs nx wt v) (k : Kp S w w') (h1 : rB ∉ S) (h2 : ∀ g, v.ownBlock = some g → g ∉ S) : RS w' base rB size bs nx wt v :=
  ⟨k.blk h.1 h1, own_kp h.2.1 k h2, h.2.2⟩

/-- A new ring. -/
def RN (w : World) (base size : Nat) (bs : List Int) (nx : Nat) (wt : Int) (v : Value) (e : Ending) (w' : World) : Prop :=
  ∃ rB, w.heap.size ≤ rB ∧ e = .returned (.pointer (some ⟨rB, 0, none⟩)) ∧ RS w' base rB size bs nx wt v ∧ Kp [] w w' ∧ (∀ g, v.ownBlock = some g → g < w.heap.size)
theorem new23' (size base nx : Nat) (wt : Int) (bs : List Int) (p : Option Addr) (c : Nat) (w : World) (h : w.ownsRow base 5 1 (.slice p bs.length c) bs.length (bs.map (Value.int .u8))) (hb : base ≤ w.heap.size) :
    Calls Try.prog 23 #[.int .i64 size, .slice p bs.length c, .int .i64 nx, .int .i64 wt] w (RN w base size bs nx wt (.slice p bs.length c)) := by
  refine (new23 size nx wt p bs.length c w).mono ?_
  rintro e w' ⟨rfl, rfl⟩
  have hl : ∀ g, (Value.slice p bs.length c).ownBlock = some g → g < w.heap.size := fun g hg => (h.lt g hg).2
  have k : Kp [] w (w.alloc (.cells #[.int .i64 size, .slice p bs.length c, .int .i64 nx, .int .i64 wt] 50)) := (Kp.refl _ _).alloc _
  refine ⟨w.heap.size, Nat.le_refl _, rfl, ⟨?_, own_kp h k (by simp), fun e => ?_, hb⟩, k, hl⟩
  · exact Blk.new w _ _
  · have := hl _ e; omega

/-- What a write to a ring leaves. -/
def RWr (w : World) (base rB size : Nat) (bs : List Int) (nx : Nat) (wt : Int) (ps : List Int) (v : Value) (e : Ending) (w' : World) : Prop :=
  e = .returned (.tuple #[]) ∧ ∃ v', RS w' base rB size (W size bs nx ps).1 (W size bs nx ps).2 (wrap64 (wt + ps.length)) v' ∧ (v' = .slice none 0 0 ↔ v = .slice none 0 0 ∧ ps = []) ∧
    (∀ B, B ≤ rB → B ≤ w.heap.size → (∀ g, v.ownBlock = some g → B ≤ g) → (∀ g, v'.ownBlock = some g → B ≤ g) ∧ ∀ k, k < B → w'.heap[k]? = w.heap[k]?) ∧ Kp (rB :: v.ownBlock.toList) w w'

theorem write24' (rB size cp nx base np : Nat) (wt : Int) (bs ps : List Int) (v : Value) (pp : Option Addr) (w : World) (h : RS w base rB size bs nx wt v)
    (hp : Src w pp (ps.map (Value.int .u8))) (hnp : ps.length = np) (hsep : ∀ a, pp = some a → a.block ≠ rB ∧ v.ownBlock ≠ some a.block)
    (s1 : 1 ≤ size) (s2 : size ≤ 65536) (hl : bs.length ≤ size) (hnx : nx < size) (h0 : bs.length < size → nx = 0) (hm : np ≤ 1048576) (hcp : np ≤ cp)
    (hwt : -9223372036854775808 ≤ wt ∧ wt ≤ 9223372036854775807) :
    Calls Try.prog 24 #[.pointer (some ⟨rB, 0, none⟩), .slice pp np cp] w (RWr w base rB size bs nx wt ps v) := by
  subst hnp
  obtain ⟨a1, a2, a3, a4⟩ := h
  refine (write24 _ _ w _ ?_ (write32 rB size cp nx base wt bs ps v pp w a1 a2 a3 (by have := a1.lt; omega) hp hsep s1 s2 hl hnx h0 hm hcp hwt)).mono ?_
  · rintro e w' ⟨he, _⟩
    exact he
  · rintro e w' ⟨rfl, v', b1, b2, b3, b4, b5, b6⟩
    refine ⟨rfl, v', ⟨b1, b2, b4, a4⟩, b3, fun B hB hBw hv => ⟨fun g hg => ?_, fun k hk => b6.block k (by omega) ?_⟩, b6⟩
    · rcases b5 g hg with h | h
      · exact hv g h
      · omega
    · intro hm
      rcases List.mem_cons.1 hm with h | h
      · omega
      · have := hv k (by simpa using h); omega

set_option maxRecDepth 1000000 in
set_option maxHeartbeats 2000000 in
theorem ringMid (size nb cb nx np cp nq cq : Nat) (wt : Int) (pb p q : Option Addr) (bs ps qs : List Int) (w0 u : World) (u6 u7 u8 u9 u10 u11 u12 u13 u14 u15 u16 u17 u18 u19 u20 u21 u22 u23 u24 u25 u26 u27 u28 u29 u30 u31 u32 u33 u34 u35 u36 u37 u38 u39 u40 u41 u42 u43 u44 u45 u46 u47 u48 u49 u50 u51 u52 u53 u54 u55 u56 u57 u58 u59 u60 u61 u62 u63 u64 u65 u66 u67 u68 u69 u70 u71 u72 u73 u74 u75 u76 u77 u78 u79 u80 u81 u82 u83 u84 u85 u86 u87 u88 u89 u90 u91 u92 u93 u94 u95 u96 u97 u98 u99 u100 u101 u102 u103 u104 u105 u106 u107 u108 u109 u110 u111 u112 u113 u114 u115 u116 u117 u118 u119 u120 u121 u122 u123 u124 u125 u126 u127 u128 u129 u130 u131 u132 u133 u134 u135 u136 u137 u138 u139 u140 u141 u142 u143 u144 u145 u146 : Value)
    (hbb : Src u pb (bs.map (Value.int .u8))) (hpp : Src u p (ps.map (Value.int .u8))) (hqq : Src u q (qs.map (Value.int .u8))) (lb : bs.length = nb) (lp : ps.length = np) (lq : qs.length = nq)
    (nb0 : pb = none → nb = 0 ∧ cb = 0) (np0 : p = none → np = 0 ∧ cp = 0) (nq0 : q = none → nq = 0 ∧ cq = 0) (hcp : np ≤ cp) (hcq : nq ≤ cq)
    (pl : ∀ a, p = some a → a.block < u.heap.size) (ql : ∀ a, q = some a → a.block < u.heap.size)
    (s1 : 1 ≤ size) (s2 : size ≤ 65536) (hl : nb ≤ size) (hnx : nx < size) (h0 : nb < size → nx = 0) (hm : nb + np + nq ≤ 1048576) (hwt : -9223372036854775808 ≤ wt ∧ wt ≤ 9223372036854775807)
    (hw0 : Below w0.heap.size w0 u)
    (K : Act → World → Prop) (hK : ∀ a w', Code.wp Try.prog (restOf2 19 Try.f8) (bodyPost Try.prog Try.f8 (RetTrue w0)) a w' → K a w') :
    Code.wp Try.prog (headOf2 19 Try.f8) (Exit.then K (bodyPost Try.prog Try.f8 (RetTrue w0))) ⟨#[.int .i64 size, .slice pb nb cb, .int .i64 nx, .int .i64 wt, .slice p np cp, .slice q nq cq, u6, u7, u8, u9, u10, u11, u12, u13, u14, u15, u16, u17, u18, u19, u20, u21, u22, u23, u24, u25, u26, u27, u28, u29, u30, u31, u32, u33, u34, u35, u36, u37, u38, u39, u40, u41, u42, u43, u44, u45, u46, u47, u48, u49, u50, u51, u52, u53, u54, u55, u56, u57, u58, u59, u60, u61, u62, u63, u64, u65, u66, u67, u68, u69, u70, u71, u72, u73, u74, u75, u76, u77, u78, u79, u80, u81, u82, u83, u84, u85, u86, u87, u88, u89, u90, u91, u92, u93, u94, u95, u96, u97, u98, u99, u100, u101, u102, u103, u104, u105, u106, u107, u108, u109, u110, u111, u112, u113, u114, u115, u116, u117, u118, u119, u120, u121, u122, u123, u124, u125, u126, u127, u128, u129, u130, u131, u132, u133, u134, u135, u136, u137, u138, u139, u140, u141, u142, u143, u144, u145, u146], []⟩ u := by
  conv at hK => enter [a, w', 1, 2]; whnf
  conv => arg 2; whnf
  subst lb
  obtain ⟨U, hU⟩ : ∃ U, U = u.heap.size := ⟨_, rfl⟩
  have HBB := hide hbb
  have HPP := hide hpp
  have HQQ := hide hqq
  have HW0 := hide hw0
  have LP := hide lp
  have LQ := hide lq
  have NB := hide nb0
  have NP := hide np0
  have NQ := hide nq0
  have PL := hide pl
  have QL := hide ql
  have HWT := hide hwt
  have H0 := hide h0
  have HU := hide hU
  clear hbb hpp hqq hw0 lp lq nb0 np0 nq0 pl ql hwt h0 hU
  have C1 := hide (clone22 pb bs.length cb U (bs.map (Value.int .u8)) u (by omega) (by simp) (unhide HBB) (unhide NB) (Nat.le_of_eq (unhide HU)) (one_of bs))
  go_wp2_with fail
  refine (unhide C1).mono ?_
  clear C1
  rintro e w1 ⟨v1, rfl, o1, n1, g1, k1⟩
  obtain ⟨p1, c1, rfl, _⟩ := own_src o1
  have k1s := k1.size
  have N1 := hide (new23' size U nx wt bs p1 c1 w1 o1 (Nat.le_trans (Nat.le_of_eq (unhide HU)) k1s))
  have M1 := hide n1
  have G1 := hide g1
  have KK1 := hide k1
  clear n1 g1 k1 o1 k1s
  simp only []
  go_wp2_with fail
  refine (unhide N1).mono ?_
  clear N1
  rintro e w2 ⟨r1, hr1, rfl, R1, k2, _⟩
  have kA : Kp [] u w2 := (unhide KK1).trans k2
  have hUr : U ≤ r1 := R1.2.2.2
  have HWA := hide (write24' r1 size cp nx U np wt bs ps _ p w2 R1 ((unhide HPP).keep kA) (unhide LP) (fun a ha => ⟨by have := (unhide PL) a ha; have := unhide HU; omega, fun hg => by have := (unhide G1) _ hg; have := (unhide PL) a ha; omega⟩) s1 s2 hl hnx (unhide H0) (by omega) hcp (unhide HWT))
  have KA := hide kA
  have R1' := hide R1
  clear R1 k2 kA KK1
  simp only []
  go_wp2_with fail
  refine (unhide HWA).mono ?_
  clear HWA
  rintro e w3 ⟨rfl, v2, R2, n2, b2, k3⟩
  have kA := unhide KA
  have hUe := unhide HU
  obtain ⟨b2a, b2b⟩ := b2 U hUr (by have := kA.size; omega) (fun g hg => by have := (unhide G1) g hg; omega)
  have kB : Kp [] u w3 := ⟨k3.os.trans kA.os, k3.tape.trans kA.tape, k3.output.trans kA.output, Nat.le_trans kA.size k3.size, fun k hk _ => (b2b k (by omega)).trans (kA.block k hk (by simp))⟩
  have HWB := hide (write24' r1 size cq (W size bs nx ps).2 U nq (wrap64 (wt + ps.length)) (W size bs nx ps).1 qs _ q w3 R2 ((unhide HQQ).keep kB) (unhide LQ) (fun a ha => ⟨by have := (unhide QL) a ha; omega, fun hg => by have := b2a _ hg; have := (unhide QL) a ha; omega⟩) s1 s2 (W_len size ps bs nx hl) (W_next size (by omega) ps bs nx hnx) (W_zero size (by omega) ps bs nx hl (unhide H0)) (by omega) hcq (wrap64_range _))
  have KB := hide kB
  have B2A := hide b2a
  have N2 := hide n2
  clear kA hUe b2a b2b kB k3 R2 b2 n2 KA R1'
  simp only []
  go_wp2_with fail
  refine (unhide HWB).mono ?_
  clear HWB
  rintro e w4 ⟨rfl, v3, R3, n3, b3, k4⟩
  have kB := unhide KB
  have hUe := unhide HU
  obtain ⟨b3a, b3b⟩ := b3 U hUr (by have := kB.size; omega) (fun g hg => (unhide B2A) g hg)
  have kC : Kp [] u w4 := ⟨k4.os.trans kB.os, k4.tape.trans kB.tape, k4.output.trans kB.output, Nat.le_trans kB.size k4.size, fun k hk _ => (b3b k (by omega)).trans (kB.block k hk (by simp))⟩
  obtain ⟨V, hV⟩ : ∃ V, V = w4.heap.size := ⟨_, rfl⟩
  have C2 := hide (clone22 pb bs.length cb V (bs.map (Value.int .u8)) w4 (by omega) (by simp) ((unhide HBB).keep kC) (unhide NB) (Nat.le_of_eq hV) (one_of bs))
  have KC := hide kC
  have R3 := hide R3
  have N3 := hide n3
  have HV := hide hV
  clear kB hUe b3a b3b kC k4 b3 n3 KB B2A hV
  simp only []
  go_wp2_with fail
  refine (unhide C2).mono ?_
  clear C2
  rintro e w5 ⟨v5, rfl, o5, n5, g5, k5⟩
  obtain ⟨p5, c5, rfl, _⟩ := own_src o5
  have k5s := k5.size
  have N6 := hide (new23' size V nx wt bs p5 c5 w5 o5 (Nat.le_trans (Nat.le_of_eq (unhide HV)) k5s))
  have M5 := hide n5
  have G5 := hide g5
  have KK5 := hide k5
  clear n5 g5 k5 o5 k5s
  simp only []
  go_wp2_with fail
  refine (unhide N6).mono ?_
  clear N6
  rintro e w6 ⟨r2, hr2, rfl, R6, k6, g6⟩
  have kD : Kp [] w4 w6 := (unhide KK5).trans k6
  have kE : Kp [] u w6 := (unhide KC).trans kD
  have HVr : V ≤ r2 := R6.2.2.2
  have CN := hide (concat16 p q np nq cp cq w6.heap.size (ps.map (Value.int .u8)) (qs.map (Value.int .u8)) w6 (by omega) (by simpa using unhide LP) (by simpa using unhide LQ) ((unhide HPP).keep kE) ((unhide HQQ).keep kE) (unhide NP) (unhide NQ) rfl (one_of ps) (one_of qs))
  have KD := hide kD
  have R6 := hide R6
  have G6 : Hid (∀ g, (Value.slice p5 bs.length c5).ownBlock = some g → g < w6.heap.size) := fun g hg => by have := g6 g hg; have := k6.size; omega
  clear kD kE k6 g6 KK5
  simp only []
  go_wp2_with fail
  refine (unhide CN).mono ?_
  clear CN
  rintro e w7 ⟨vc, rfl, o7, _, g7, k7⟩
  obtain ⟨pc, cc, rfl, s7, l7, _, a7⟩ := own_src o7
  have kD := (unhide KD).trans k7
  have HWC := hide (write24' r2 size cc nx V (np + nq) wt bs (ps ++ qs) _ pc w7 ((unhide R6).kp k7 (by simp) (by simp)) (by simpa using s7) (by simp [unhide LP, unhide LQ]) (fun a ha => by
    have h := g7 _ (a7 a ha)
    refine ⟨by have := (unhide R6).1.lt; omega, fun hg => by have := (unhide G6) _ hg; omega⟩) s1 s2 hl hnx (unhide H0) (by omega) l7 (unhide HWT))
  have KD := hide kD
  have R7 := hide ((unhide R6).kp k7 (by simp) (by simp))
  clear kD k7 g7 s7 l7 a7 o7 R6
  simp only []
  go_wp2_with fail
  refine (unhide HWC).mono ?_
  clear HWC
  rintro e w8 ⟨rfl, v8, R8, n8, b8, k8⟩
  have hVe := unhide HV
  have kD := unhide KD
  obtain ⟨b8a, b8b⟩ := b8 V HVr (by have := kD.size; omega) (fun g hg => by have := (unhide G5) g hg; omega)
  have kF : Kp [] w4 w8 := ⟨k8.os.trans kD.os, k8.tape.trans kD.tape, k8.output.trans kD.output, Nat.le_trans kD.size k8.size, fun k hk _ => (b8b k (by omega)).trans (kD.block k hk (by simp))⟩
  have R3' : RS w8 U r1 size _ _ _ v3 := (unhide R3).kp kF (by simp) (by simp)
  have HB8 := hide (((unhide KC).trans kF).below (unhide HW0) (unhide HW0).size (by simp))
  have hN : v3 = .slice none 0 0 ↔ v8 = .slice none 0 0 := by
    rw [unhide N3, unhide N2, unhide M1, n8, unhide M5]
    simp [List.append_eq_nil_iff, and_assoc]
  rw [← W_append] at R3'
  rw [wrap64_add] at R3'
  obtain ⟨Z, hZ⟩ : ∃ Z, Z = W size bs nx (ps ++ qs) := ⟨_, rfl⟩
  obtain ⟨T, hT⟩ : ∃ T, T = wrap64 (wt + (ps ++ qs).length) := ⟨_, rfl⟩
  rw [← hZ] at R3' R8
  rw [← hT] at R8
  rw [show wt + ((ps.length : Int) + (qs.length : Int)) = wt + (ps ++ qs).length by simp, ← hT] at R3'
  have hZl : Z.1.length ≤ 1048576 := by
    have := W_len size (ps ++ qs) bs nx hl
    rw [hZ]; omega
  obtain ⟨p3, c3, rfl, S3, _, z3, _⟩ := own_src R3'.2.1
  obtain ⟨p8, c8, rfl, S8, _, z8, _⟩ := own_src R8.2.1
  have hP : p3 = none ↔ p8 = none := by
    constructor
    · intro h
      obtain ⟨x, y⟩ := z3 h
      have := hN.1 (by rw [h, x, y])
      simp at this
      exact this.1
    · intro h
      obtain ⟨x, y⟩ := z8 h
      have := hN.2 (by rw [h, x, y])
      simp at this
      exact this.1
  have BA := hide (buf25 r1 _ _ _ _ w8 R3'.1)
  have BB := hide (buf25 r2 _ _ _ _ w8 R8.1)
  have EQ := hide (eq14 p3 p8 Z.1.length c3 c8 Z.1 w8 hZl rfl S3 S8)
  have NA := hide (fun w' (k : Kp [] w8 w') => next26 r1 _ _ _ _ w' (k.blk R3'.1 (by simp)))
  have NB' := hide (fun w' (k : Kp [] w8 w') => next26 r2 _ _ _ _ w' (k.blk R8.1 (by simp)))
  have WA := hide (fun w' (k : Kp [] w8 w') => writ27 r1 _ _ _ _ w' (k.blk R3'.1 (by simp)))
  have WB := hide (fun w' (k : Kp [] w8 w') => writ27 r2 _ _ _ _ w' (k.blk R8.1 (by simp)))
  have hnil1 : ∀ w, (binOp .eql 23 (.slice p3 Z.1.length c3) (.slice none 0 0)).run Try.prog w = .ok (.bool p3.isNone) w := fun w => by
    rw [Lib.run_eql_slice_nil w 23 5 _ _ _ _ _ Try.underlying23]
  have hnil2 : ∀ w, (binOp .eql 23 (.slice p8 Z.1.length c8) (.slice none 0 0)).run Try.prog w = .ok (.bool p3.isNone) w := fun w => by
    rw [Lib.run_eql_slice_nil w 23 5 _ _ _ _ _ Try.underlying23]
    cases p3 <;> cases p8 <;> simp_all
  generalize p3.isNone = bn at hnil1 hnil2
  clear hP hN R3' R8 S3 S8 z3 z8 kF kD b8 b8a b8b k8 n8 hVe hZ hT KC KD N2 N3 M1 M5 G1 G5 G6 R3 R7 HBB HPP HQQ HW0 LP LQ NB NP NQ PL QL HWT H0 HU HV
  simp only []
  go_wp2_with fail
  refine (unhide BA).mono ?_
  rintro e w9 ⟨hw9, rfl⟩
  have hw9 := hw9.symm
  subst hw9
  simp only []
  go_wp2_with fail
  refine (unhide BB).mono ?_
  rintro e w9 ⟨hw9, rfl⟩
  have hw9 := hw9.symm
  subst hw9
  simp only []
  go_wp2_with fail
  refine (unhide EQ).mono ?_
  rintro e w9 ⟨rfl, k9⟩
  have K9 := hide k9
  clear k9
  simp only []
  go_wp2_with fail
  refine ((unhide NA) _ (unhide K9)).mono ?_
  rintro e w10 ⟨hw10, rfl⟩
  have hw10 := hw10.symm
  subst hw10
  simp only []
  go_wp2_with fail
  refine ((unhide NB') _ (unhide K9)).mono ?_
  rintro e w10 ⟨hw10, rfl⟩
  have hw10 := hw10.symm
  subst hw10
  simp only []
  go_wp2_with fail
  refine ((unhide WA) _ (unhide K9)).mono ?_
  rintro e w10 ⟨hw10, rfl⟩
  have hw10 := hw10.symm
  subst hw10
  simp only []
  go_wp2_with fail
  refine ((unhide WB) _ (unhide K9)).mono ?_
  rintro e w10 ⟨hw10, rfl⟩
  have hw10 := hw10.symm
  subst hw10
  simp only []
  go_wp2
  go_ret
  exact ⟨rfl, (unhide K9).below (unhide HB8) (unhide HB8).size (by simp)⟩
end Go.Proofs.Qxb6601367a
