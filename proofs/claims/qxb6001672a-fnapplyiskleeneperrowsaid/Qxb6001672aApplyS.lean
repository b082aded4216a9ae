/-
  logicalInts.apply (59), its stated path: from region 4 on.
-/
import Derived.Test.Qxb6001672aApply
set_option linter.unusedSimpArgs false
set_option linter.unusedVariables false
namespace Go.Proofs.Qxb6001672a
open Go.RowKit

theorem Pure.q {P : Program} {f : FuncId} {args : Array Value} {w : World} {v : Value} (h : Calls P f args w (Pure w v)) : Calls P f args w (fun e w' => e = .returned v ∧ w' = w) :=
  h.mono fun _ _ h => ⟨h.2, h.1⟩

set_option maxRecDepth 1000000 in
set_option maxHeartbeats 2000000 in
theorem applyS (d : Int) (m lB rB oB nB sB gsa gsb cB : Nat) (pa qa pb qb : Option Addr) (xa sa xb sb : List Int) (xo st : List Int) (ap bp op : Bool) (x3 x4 y3 y4 z3 z4 : Value) (w0 w v : World) (u0 u5 u6 u7 u13 u14 u15 u16 u17 u18 u19 u20 u21 u22 u23 u24 u25 u26 u27 u28 u29 u30 u31 u32 u33 u34 u35 u36 u37 u38 u39 u40 u41 u42 u43 u44 u45 u46 u47 u48 u49 u50 u51 u52 u53 u54 u55 u56 u57 u58 u59 u60 u61 u62 u63 u64 u65 u66 u67 u68 u69 u70 u71 u72 u73 u74 u75 u76 u77 u78 u79 u80 u81 u82 u83 u84 u85 u86 u87 u88 u89 u90 u91 u92 u93 u94 u95 u96 u97 u98 u99 u100 u101 u102 u103 u104 u105 u106 u107 u108 u109 u110 u111 u112 u113 u114 u115 u116 u117 u118 u119 u120 u121 u122 u123 u124 u125 u126 u127 u128 u129 u130 u131 u132 u133 u134 u135 u136 u137 u138 u139 u140 u141 u142 u143 u144 u145 u146 u147 u148 u149 u150 u151 u152 u153 u154 u155 u156 u157 u158 u159 u160 u161 u162 u163 u164 u165 u166 u167 u168 u169 u170 u171 u172 u173 u174 u175 u176 u177 u178 u179 u180 u181 : Value)
    (hL : IV v lB pa qa gsa sa ap m x3 x4) (hR : IV v rB pb qb gsb sb bp m y3 y4) (hO : IV v oB (some ⟨nB, 0, none⟩) (some ⟨sB, 0, none⟩) sB st op m z3 z4) (hN : Sl v (some ⟨nB, 0, none⟩) nB (xo.map (Value.int .i64)) 2) (lo : xo.length = m)
    (hcd : v.cell? ⟨cB, 0, none⟩ = some (.int .i8 d)) (hab : (ap && bp) = false) (hKv : Kp [] w v)
    (hb : Below w0.heap.size w0 v) (ha0 : Src w0 pa (xa.map (Value.int .i64))) (hb0 : Src w0 pb (xb.map (Value.int .i64))) (la : xa.length = m) (lb : xb.length = m)
    (hm : m ≤ 65536) (g0 : w0.heap.size ≤ oB) (g1 : w0.heap.size ≤ nB) (g1' : w0.heap.size ≤ sB) (g2 : nB ≠ oB) (g3 : nB ≠ sB) (g4 : oB ≠ sB) (k1 : cB ≠ nB) (k2 : cB ≠ sB)
    (gg : 0 < m → w0.heap.size ≤ gsa ∧ w0.heap.size ≤ gsb ∧ lB ≠ gsa ∧ rB ≠ gsa ∧ lB ≠ gsb ∧ rB ≠ gsb ∧ oB ≠ gsa ∧ oB ≠ gsb ∧ gsa ≠ gsb ∧ nB ≠ gsa ∧ nB ≠ gsb ∧ sB ≠ gsa ∧ sB ≠ gsb ∧ cB ≠ gsa ∧ cB ≠ gsb)
    (K : Act → World → Prop) (hK : ∀ a w', Code.wp Try.prog (restOf2 4 Try.f59) (Exit.inBlock 0 (bodyPost Try.prog Try.f59 (ApOut w d m oB nB sB gsa gsb xa (eff ap sa) xb (eff bp sb) ap bp z3 z4))) a w' → K a w') :
    Code.wp Try.prog (headOf2 4 Try.f59) (Exit.then K (Exit.inBlock 0 (bodyPost Try.prog Try.f59 (ApOut w d m oB nB sB gsa gsb xa (eff ap sa) xb (eff bp sb) ap bp z3 z4)))) ⟨#[u0, .pointer (some ⟨lB, 0, none⟩), .pointer (some ⟨rB, 0, none⟩), .pointer (some ⟨oB, 0, none⟩), .pointer (some ⟨cB, 0, none⟩), u5, u6, u7, .slice (some ⟨nB, 0, none⟩) m m, .slice (some ⟨sB, 0, none⟩) m m, .int .i64 m, .slice pa m m, .slice pb m m, u13, u14, u15, u16, u17, u18, u19, u20, u21, u22, u23, u24, u25, u26, u27, u28, u29, u30, u31, u32, u33, u34, u35, u36, u37, u38, u39, u40, u41, u42, u43, u44, u45, u46, u47, u48, u49, u50, u51, u52, u53, u54, u55, u56, u57, u58, u59, u60, u61, u62, u63, u64, u65, u66, u67, u68, u69, u70, u71, u72, u73, u74, u75, u76, u77, u78, u79, u80, u81, u82, u83, u84, u85, u86, u87, u88, u89, u90, u91, u92, u93, u94, u95, u96, u97, u98, u99, u100, u101, u102, u103, u104, u105, u106, u107, u108, u109, u110, u111, u112, u113, u114, u115, u116, u117, u118, u119, u120, u121, u122, u123, u124, u125, u126, u127, u128, u129, u130, u131, u132, u133, u134, u135, u136, u137, u138, u139, u140, u141, u142, u143, u144, u145, u146, u147, u148, u149, u150, u151, u152, u153, u154, u155, u156, u157, u158, u159, u160, u161, u162, u163, u164, u165, u166, u167, u168, u169, u170, u171, u172, u173, u174, u175, u176, u177, u178, u179, u180, u181], []⟩ v := by
  conv at hK => enter [a, w', 1, 2]; whnf
  conv => arg 2; whnf
  have ni : ∀ {k g : Nat}, (0 < m → k ≠ g) → k ∉ gl m g := fun h h' => h (mem_gl.1 h').1 (mem_gl.1 h').2
  have C1 : Hid (Calls Try.prog 50 #[.pointer (some ⟨lB, 0, none⟩)] v.drew (StOut v.drew qa m m gsa sa ap)) := states50 lB gsa _ x3 x4 qa m m ap sa v.drew hL.bv.drew hL.bs hL.ls (fun h => (gg h).2.2.1)
  have C2 : Hid (∀ w1, Kp (gl m gsa) v.drew w1 → Calls Try.prog 50 #[.pointer (some ⟨rB, 0, none⟩)] w1 (StOut w1 qb m m gsb sb bp)) := fun w1 hK1 => by
    have h2 : IV w1 rB pb qb gsb sb bp m y3 y4 := IV.kp (w := v.drew) ⟨hR.bv, hR.bs, hR.ls⟩ hK1 (ni (fun h => (gg h).2.2.2.1)) (fun h => ni (fun h => ((gg h).2.2.2.2.2.2.2.2.1).symm))
    exact states50 rB gsb _ y3 y4 qb m m bp sb w1 h2.bv h2.bs h2.ls (fun h => (gg h).2.2.2.2.2.1)
  have GG : Hid (0 < m → w0.heap.size ≤ gsa ∧ w0.heap.size ≤ gsb ∧ lB ≠ gsa ∧ rB ≠ gsa ∧ lB ≠ gsb ∧ rB ≠ gsb ∧ oB ≠ gsa ∧ oB ≠ gsb ∧ gsa ≠ gsb ∧ nB ≠ gsa ∧ nB ≠ gsb ∧ sB ≠ gsa ∧ sB ≠ gsb ∧ cB ≠ gsa ∧ cB ≠ gsb) := gg
  have NI : Hid (∀ {k g : Nat}, (0 < m → k ≠ g) → k ∉ gl m g) := ni
  have HO : Hid (IV v oB (some ⟨nB, 0, none⟩) (some ⟨sB, 0, none⟩) sB st op m z3 z4) := hO
  have HN : Hid (Sl v (some ⟨nB, 0, none⟩) nB (xo.map (Value.int .i64)) 2) := hN
  have HL : Hid (IV v lB pa qa gsa sa ap m x3 x4) := hL
  have HR : Hid (IV v rB pb qb gsb sb bp m y3 y4) := hR
  have HV : Hid (Kp [] w v) := hKv
  have HD : Hid (v.cell? ⟨cB, 0, none⟩ = some (.int .i8 d)) := hcd
  clear hL hR hO hN hKv gg ni hcd
  go_region_held3 (fun _ => True) (trivial) (first | (go_at_call_of 50 (Value.pointer (some ⟨lB, 0, none⟩)); refine C1.out.mono ?_; rintro e w1 ⟨rfl, hS1, hK1, hs1⟩) | (go_at_call_of 50 (Value.pointer (some ⟨rB, 0, none⟩)); refine (C2.out _ (by assumption)).mono ?_; rintro e w2 ⟨rfl, hS2, hK2, hs2⟩))
  have hS1' : Sl w2 qa gsa ((eff ap sa).map (Value.int .u8)) 86 := hS1.kp hK2 (NI.out (fun h => (GG.out h).2.2.2.2.2.2.2.2.1))
  have hO2 : IV w2 oB (some ⟨nB, 0, none⟩) (some ⟨sB, 0, none⟩) sB st op m z3 z4 :=
    (IV.kp (w := v.drew) ⟨HO.out.bv, HO.out.bs, HO.out.ls⟩ hK1 (NI.out (fun h => (GG.out h).2.2.2.2.2.2.1)) (fun h => NI.out (fun h => (GG.out h).2.2.2.2.2.2.2.2.2.2.2.1))).kp hK2 (NI.out (fun h => (GG.out h).2.2.2.2.2.2.2.1)) (fun h => NI.out (fun h => (GG.out h).2.2.2.2.2.2.2.2.2.2.2.2.1))
  have hN2 : Sl w2 (some ⟨nB, 0, none⟩) nB (xo.map (Value.int .i64)) 2 :=
    (Sl.kp (w := v.drew) HN.out hK1 (NI.out (fun h => (GG.out h).2.2.2.2.2.2.2.2.2.1))).kp hK2 (NI.out (fun h => (GG.out h).2.2.2.2.2.2.2.2.2.2.1))
  have hKw : Kp (gl m gsa ++ gl m gsb) w w2 := (((HV.out.drew).mono (fun k _ h => by simp at h)).trans (hK1.mono (fun k _ h => by simp [h]))).trans (hK2.mono (fun k _ h => by simp [h]))
  have hbw : Below w0.heap.size w0 w2 := by
    have b1 : Below w0.heap.size w0 v.drew := hb.drew
    have b2 := hK1.below b1 b1.size (fun k h => by obtain ⟨h1, rfl⟩ := mem_gl.1 h; exact (GG.out h1).1)
    exact hK2.below b2 b2.size (fun k h => by obtain ⟨h1, rfl⟩ := mem_gl.1 h; exact (GG.out h1).2.1)
  have hcd : 0 < m → w2.cell? ⟨cB, 0, none⟩ = some (.int .i8 d) := fun h0 =>
    (hK2.cell (p := ⟨cB, 0, none⟩) (by have := block_lt_of_cell HD.out; have := hK1.size; exact Nat.lt_of_lt_of_le (show cB < v.drew.heap.size from block_lt_of_cell HD.out) hK1.size) (NI.out (fun h => (GG.out h).2.2.2.2.2.2.2.2.2.2.2.2.2.2))).trans
      ((hK1.cell (p := ⟨cB, 0, none⟩) (show cB < v.drew.heap.size from block_lt_of_cell HD.out) (NI.out (fun h => (GG.out h).2.2.2.2.2.2.2.2.2.2.2.2.2.1))).trans HD.out)
  have T1 : Hid (Sl w2 qa gsa ((eff ap sa).map (Value.int .u8)) 86) := hS1'
  have T2 : Hid (Sl w2 qb gsb ((eff bp sb).map (Value.int .u8)) 86) := hS2
  have T3 : Hid (IV w2 oB (some ⟨nB, 0, none⟩) (some ⟨sB, 0, none⟩) sB st op m z3 z4) := hO2
  have T4 : Hid (Kp (gl m gsa ++ gl m gsb) w w2) := hKw
  have T5 : Hid (Below w0.heap.size w0 w2) := hbw
  have T6 : Hid (0 < m → w2.cell? ⟨cB, 0, none⟩ = some (.int .i8 d)) := hcd
  have lsa : (eff ap sa).length = m := by rw [eff_len]; exact HL.out.ls
  have lsb : (eff bp sb).length = m := by rw [eff_len]; exact HR.out.ls
  have lst := HO.out.ls
  have hS0 := hO2.bs
  clear hS1 hS1' hS2 hO2 hKw hbw hcd hK1 hK2 hs1 hs2 C1 C2 HO HN HL HR HV HD hb
  generalize hea : eff ap sa = ea at *
  generalize heb : eff bp sb = eb at *
  clear hea heb
  go_wp2
  go_loopw [57] (fun i wr => ∃ k : Nat, k ≤ m ∧ i = .int .i64 k ∧ Sl wr (some ⟨nB, 0, none⟩) nB (ovr ((NL d m xa ea xb eb).map (Value.int .i64)) (xo.map (Value.int .i64)) k) 2 ∧
    Sl wr (some ⟨sB, 0, none⟩) sB (ovr ((SL d m xa ea xb eb).map (Value.int .u8)) (st.map (Value.int .u8)) k) 86 ∧ Kp [nB, sB] w2 wr) (fun i _ => m - (intOf i).toNat)
  case atStart =>
    refine ⟨0, Nat.zero_le _, rfl, ?_, ?_, Kp.refl _ _⟩
    · rw [ovr_zero]; exact hN2
    · rw [ovr_zero]; exact hS0
  case round =>
    obtain ⟨k, hk, rfl, hBn, hBs, hKr⟩ := hrel
    have lN : (NL d m xa ea xb eb).length = m := by simp [NL]
    have lS : (SL d m xa ea xb eb).length = m := by simp [SL]
    by_cases hlt : k < m
    · have hbr := hKr.below T5.out T5.out.size (by simp; exact ⟨g1, g1'⟩)
      have G := GG.out (by omega)
      obtain ⟨b1, o1, e1, hb1, hc1⟩ := ha0 (by simp [la]; omega)
      obtain ⟨b2, o2, e2, hb2, hc2⟩ := hb0 (by simp [lb]; omega)
      subst e1 e2
      obtain ⟨e3, s1⟩ := T1.out (by simp [lsa]; omega)
      obtain ⟨e4, s2⟩ := T2.out (by simp [lsb]; omega)
      subst e3 e4
      obtain ⟨a, hak⟩ := getElem?_lt_some xa k (by omega)
      obtain ⟨b, hbk⟩ := getElem?_lt_some xb k (by omega)
      obtain ⟨va, hva⟩ := getElem?_lt_some ea k (by omega)
      obtain ⟨vb, hvb⟩ := getElem?_lt_some eb k (by omega)
      obtain ⟨on, hon⟩ := getElem?_lt_some xo k (by omega)
      obtain ⟨os, hos⟩ := getElem?_lt_some st k (by omega)
      have c1 : wr.cell? ⟨b1, o1 + k, none⟩ = some (.int .i64 a) := (hbr.cell (p := ⟨b1, o1 + k, none⟩) hb1).trans (hc1 _ _ (by simp [hak]))
      have c2 : wr.cell? ⟨b2, o2 + k, none⟩ = some (.int .i64 b) := (hbr.cell (p := ⟨b2, o2 + k, none⟩) hb2).trans (hc2 _ _ (by simp [hbk]))
      have c3 : wr.cell? ⟨gsa, k, none⟩ = some (.int .u8 va) := (hKr.blk s1 (by simp; exact ⟨G.2.2.2.2.2.2.2.2.2.1.symm, G.2.2.2.2.2.2.2.2.2.2.2.1.symm⟩)).cell (by simp [hva])
      have c4 : wr.cell? ⟨gsb, k, none⟩ = some (.int .u8 vb) := (hKr.blk s2 (by simp; exact ⟨G.2.2.2.2.2.2.2.2.2.2.1.symm, G.2.2.2.2.2.2.2.2.2.2.2.2.1.symm⟩)).cell (by simp [hvb])
      have cd0 := T6.out (by omega)
      have c5 : wr.cell? ⟨cB, 0, none⟩ = some (.int .i8 d) := (hKr.cell (p := ⟨cB, 0, none⟩) (show cB < w2.heap.size from block_lt_of_cell cd0) (by simp; exact ⟨k1, k2⟩)).trans cd0
      obtain ⟨_, hn⟩ := hBn (by rw [ovr_len _ _ _ (by simp [lN]; omega) (by simp; omega)]; simp [lo]; omega)
      obtain ⟨_, hs⟩ := hBs (by rw [ovr_len _ _ _ (by simp [lS]; omega) (by simp; omega)]; simp [lst]; omega)
      have c6 : wr.cell? ⟨nB, k, none⟩ = some (.int .i64 on) := hn.cell (by rw [ovr_at _ _ _ (by simp [lN]; omega)]; simp [hon])
      have c7 : wr.cell? ⟨sB, k, none⟩ = some (.int .u8 os) := hs.cell (by rw [ovr_at _ _ _ (by simp [lS]; omega)]; simp [hos])
      have f6 := hn.frozen k
      have f7 := hs.frozen k
      have n1 : gsa ≠ nB := G.2.2.2.2.2.2.2.2.2.1.symm
      have n2 : gsa ≠ sB := G.2.2.2.2.2.2.2.2.2.2.2.1.symm
      have n3 : gsb ≠ nB := G.2.2.2.2.2.2.2.2.2.2.1.symm
      have n4 : gsb ≠ sB := G.2.2.2.2.2.2.2.2.2.2.2.2.1.symm
      have i1 : (k : Int) < (m : Int) := by omega
      have HNk : Hid ((NL d m xa ea xb eb)[k]? = some (rN d a va b vb)) := by
        show _ = _
        rw [NL, map_rg _ _ _ hlt]
        simp [hak, hbk, hva, hvb]
      have HSk : Hid ((SL d m xa ea xb eb)[k]? = some (rS d a va b vb)) := by
        show _ = _
        rw [SL, map_rg _ _ _ hlt]
        simp [hak, hbk, hva, hvb]
      have H1 : Hid (Blk wr nB (ovr ((NL d m xa ea xb eb).map (Value.int .i64)) (xo.map (Value.int .i64)) k) 2) := hn
      have H2 : Hid (Blk wr sB (ovr ((SL d m xa ea xb eb).map (Value.int .u8)) (st.map (Value.int .u8)) k) 86) := hs
      have H3 : Hid (Kp [nB, sB] w2 wr) := hKr
      have LN := lN
      clear hBn hBs hn hs hKr hbr hc1 hc2 hak hbk hva hvb hon hos s1 s2 cd0 G lN lS hN2 hS0 ha0 hb0
      go_wp2
      go_quiet ((first | (go_at_call 51; exact Calls.quiet_of_same (Pure.q (intTruth51 _ _ _))) | (go_at_call 69; exact Calls.quiet_of_same (Pure.q (join69 _ _ _ _)))))
      go_wp2
      go_region_held3 (fun w' => w'.cell? ⟨gsa, k, none⟩ = some (.int .u8 va) ∧ w'.cell? ⟨gsb, k, none⟩ = some (.int .u8 vb)) (first | exact ⟨(cell_far n1 _ _ _ _).trans c3, (cell_far n3 _ _ _ _).trans c4⟩ | exact ⟨(cell_far n2 _ _ _ _).trans c3, (cell_far n4 _ _ _ _).trans c4⟩ | exact ⟨(cell_far n2 _ _ _ _).trans ((cell_far n1 _ _ _ _).trans c3), (cell_far n4 _ _ _ _).trans ((cell_far n3 _ _ _ _).trans c4)⟩ | exact ⟨(cell_far n1 _ _ _ _).trans ((cell_far n2 _ _ _ _).trans c3), (cell_far n3 _ _ _ _).trans ((cell_far n4 _ _ _ _).trans c4)⟩ | go_keep) (first | (go_at_call 70; refine (truthInt70 _ _ _).mono ?_; rintro e w' ⟨rfl, rfl⟩))
      all_goals go_wp2
      go_roundw
      case rel =>
        have KA : Kp [nB] wr ((wr.drewN (nq + 1)).setCell ⟨nB, k, none⟩ (.int .i64 (rN d a va b vb))) := ((Kp.refl _ _).drewN _).setCell (.inl (by simp)) _
        have KB : Kp [sB] ((wr.drewN (nq + 1)).setCell ⟨nB, k, none⟩ (.int .i64 (rN d a va b vb))) (((wr.drewN (nq + 1)).setCell ⟨nB, k, none⟩ (.int .i64 (rN d a va b vb))).setCell ⟨sB, k, none⟩ (.int .u8 (rS d a va b vb))) := (Kp.refl _ _).setCell (.inl (by simp)) _
        refine ⟨k + 1, by omega, by go_num, ?_, ?_, ((H3.out.drewN _).setCell (.inl (by simp)) _).setCell (.inl (by simp)) _⟩
        · rw [← ovr_set _ _ _ (.int .i64 (rN d a va b vb)) (by rw [List.getElem?_map, HNk.out]; rfl) (by simp [lo]; omega)]
          have hn' : Blk (wr.drewN (nq + 1)) nB (ovr ((NL d m xa ea xb eb).map (Value.int .i64)) (xo.map (Value.int .i64)) k) 2 := (((Kp.refl [] wr).drewN _)).blk H1.out (by simp)
          exact fun _ => ⟨rfl, KB.blk (hn'.set k _) (by simpa using g3)⟩
        · rw [← ovr_set _ _ _ (.int .u8 (rS d a va b vb)) (by rw [List.getElem?_map, HSk.out]; rfl) (by simp [lst]; omega)]
          exact fun _ => ⟨rfl, (KA.blk H2.out (by simpa using g3.symm)).set k _⟩
      case measure => simp [intOf]; omega
    · obtain rfl : k = m := by omega
      rw [ovr_all _ _ _ (by simp [lN]), List.drop_eq_nil_of_le (by simp [lo]), List.append_nil] at hBn
      rw [ovr_all _ _ _ (by simp [lS]), List.drop_eq_nil_of_le (by simp [lst]), List.append_nil] at hBs
      have bO := hKr.blk T3.out.bv (by simp; exact ⟨g2.symm, g4⟩)
      have c2 : wr.cell? ⟨oB, 2, none⟩ = some (.bool op) := bO.cell rfl
      have f2 := bO.frozen 2
      have K1 := ((T4.out.mono (T := [oB, nB, sB] ++ gl k gsa ++ gl k gsb) (fun i _ h => by simp at h; rcases h with h | h <;> simp [h])).trans (hKr.mono (fun i _ h => by simp at h; rcases h with h | h <;> simp [h]))).setCell (p := ⟨oB, 2, none⟩) (.inl (by simp)) (.bool false)
      have K2 : Kp [oB] wr (wr.setCell ⟨oB, 2, none⟩ (.bool false)) := (Kp.refl _ _).setCell (.inl (by simp)) _
      have E1 := bO.set 2 (.bool false)
      have E2 := hBn.kp K2 (by simpa using g2)
      have E3 := hBs.kp K2 (by simpa using g4.symm)
      have F : Hid (ApOut w d k oB nB sB gsa gsb xa ea xb eb ap bp z3 z4 (.returned (.tuple #[])) (wr.setCell ⟨oB, 2, none⟩ (.bool false))) :=
        ⟨rfl, by rw [hab]; exact E1, E2, ⟨SL d k xa ea xb eb, lS, E3, fun _ => rfl⟩, K1⟩
      clear E1 E2 E3 K1 K2 bO hBn hBs hKr ha0 hb0 T1 T2 T3 T4 T5 T6 GG NI hN2 hS0
      go_wp2
      go_end0
      exact F.out
end Go.Proofs.Qxb6001672a
