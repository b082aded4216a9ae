/-
  FnColumnReadInvertsPacking (7): the batch is made; what column c should read.
-/
import Derived.Test.Qxb6001672aColD1
import Derived.Test.Qxb6001672aPacked
set_option linter.unusedSimpArgs false
set_option linter.unusedVariables false
namespace Go.Proofs.Qxb6001672a
open Go.RowKit

set_option maxRecDepth 1000000 in
set_option maxHeartbeats 2000000 in
theorem colC (tB sB rwB txB m nC c nI ps pr n : Nat) (p1 p2 p3 : Option Addr) (bw bt : Nat → Nat) (xc : Bool) (other : Int) (tx : List Bool) (cs : List Int) (ss : List ByteArray) (nu : List Bool) (w0 w : World) (u7 u8 u9 u10 u11 u12 u13 u14 u15 u16 u18 u22 u23 u27 u28 u29 u30 u31 u32 u33 u34 u35 u36 u37 u38 u39 u40 u41 u42 u43 u44 u45 u46 u47 u48 u49 u50 u51 u52 u53 u54 u55 u56 u57 u58 u59 u60 u61 u62 u63 u64 u65 u66 u67 u68 u69 u70 u71 u72 u73 u74 u75 u76 u77 u78 u79 u80 u81 u82 u83 u84 u85 u86 u87 u88 u89 u90 u91 u92 u93 u94 u95 u96 u97 u98 u99 u100 u101 u102 u103 u104 u105 u106 u107 u108 u109 u110 u111 u112 u113 u114 u115 u116 u117 u118 u119 u120 u121 u122 u123 u124 u125 u126 u127 u128 u129 u130 u131 u132 u133 u134 u135 u136 u137 u138 u139 u140 u141 u142 u143 u144 u145 u146 u147 u148 u149 u150 u151 u152 u153 u154 u155 u156 u157 u158 u159 u160 u161 u162 u163 u164 u165 u166 u167 u168 u169 u170 u171 u172 u173 u174 u175 u176 u177 u178 u179 u180 u181 u182 u183 u184 u185 u186 u187 u188 u189 u190 u191 u192 u193 u194 u195 u196 u197 u198 u199 u200 u201 u202 u203 u204 u205 u206 u207 u208 u209 u210 u211 u212 u213 u214 u215 u216 u217 u218 u219 u220 u221 u222 u223 u224 u225 u226 u227 u228 u229 u230 u231 u232 u233 u234 u235 u236 u237 u238 u239 u240 u241 u242 u243 u244 u245 u246 u247 u248 u249 u250 u251 u252 u253 u254 u255 u256 u257 u258 u259 u260 u261 u262 u263 u264 u265 u266 u267 u268 u269 u270 u271 u272 u273 u274 u275 u276 u277 u278 u279 u280 u281 u282 u283 u284 u285 u286 u287 u288 u289 u290 u291 u292 u293 u294 u295 u296 u297 u298 u299 u300 u301 u302 u303 u304 u305 u306 u307 u308 u309 u310 u311 u312 u313 u314 u315 u316 u317 u318 u319 u320 u321 u322 u323 u324 u325 u326 u327 u328 u329 u330 u331 u332 u333 u334 u335 u336 u337 u338 u339 u340 u341 u342 u343 u344 u345 u346 u347 u348 u349 u350 u351 u352 u353 u354 u355 u356 u357 u358 u359 u360 u361 u362 u363 u364 u365 u366 u367 u368 u369 u370 u371 u372 u373 u374 u375 : Value)
    (hT : Blk w tB (tx.map Value.bool) 4) (hS : Blk w sB ((List.range nC).map fun j => Value.int .i64 (slotOf tx j)) 3) (hP : Packed w rwB txB m pr ps nC c nI bw bt tx cs ss nu)
    (h1 : Src w p1 (cs.map (Value.int .i64))) (h2 : Src w p2 (ss.map Value.string)) (h3 : Src w p3 (nu.map Value.bool)) (l1 : cs.length = n) (l2 : ss.length = n) (l3 : nu.length = n) (hn : n = m * nC)
    (hxc : tx[c]? = some xc) (hlen : tx.length = nC) (hnI : nI = cnt tx false nC) (hps : ps = cnt tx true nC) (hpr : pr = nI + (nC + 63) / 64)
    (hm : m ≤ 64) (hc : c < nC) (hnC : nC ≤ 130) (hcs : ∀ z ∈ cs, -9223372036854775808 ≤ z ∧ z ≤ 9223372036854775807) (hoc : other ≠ c)
    (hrw : rwB < w.heap.size) (htx : txB < w.heap.size) (hbel : Below w0.heap.size w0 w)
    (K : Act → World → Prop) (hK : ∀ a w', Code.wp Try.prog (restOf 61 Try.f7) (bodyPost Try.prog Try.f7 (RetTrue w0)) a w' → K a w') :
    Code.wp Try.prog (headOf 61 Try.f7) (Exit.then K (bodyPost Try.prog Try.f7 (RetTrue w0))) ⟨#[.slice (some ⟨tB, 0, none⟩) nC nC, .slice p1 n n, .slice p2 n n, .slice p3 n n, .int .i64 m, .int .i64 c, .int .i64 other, u7, u8, u9, u10, u11, u12, u13, u14, u15, u16, .int .i64 nC, u18, .slice (some ⟨sB, 0, none⟩) nC nC, .int .i64 nI, .int .i64 ps, u22, u23, .int .i64 pr, .slice (some ⟨rwB, 0, none⟩) m m, .slice (some ⟨txB, 0, none⟩) m m, u27, u28, u29, u30, u31, u32, u33, u34, u35, u36, u37, u38, u39, u40, u41, u42, u43, u44, u45, u46, u47, u48, u49, u50, u51, u52, u53, u54, u55, u56, u57, u58, u59, u60, u61, u62, u63, u64, u65, u66, u67, u68, u69, u70, u71, u72, u73, u74, u75, u76, u77, u78, u79, u80, u81, u82, u83, u84, u85, u86, u87, u88, u89, u90, u91, u92, u93, u94, u95, u96, u97, u98, u99, u100, u101, u102, u103, u104, u105, u106, u107, u108, u109, u110, u111, u112, u113, u114, u115, u116, u117, u118, u119, u120, u121, u122, u123, u124, u125, u126, u127, u128, u129, u130, u131, u132, u133, u134, u135, u136, u137, u138, u139, u140, u141, u142, u143, u144, u145, u146, u147, u148, u149, u150, u151, u152, u153, u154, u155, u156, u157, u158, u159, u160, u161, u162, u163, u164, u165, u166, u167, u168, u169, u170, u171, u172, u173, u174, u175, u176, u177, u178, u179, u180, u181, u182, u183, u184, u185, u186, u187, u188, u189, u190, u191, u192, u193, u194, u195, u196, u197, u198, u199, u200, u201, u202, u203, u204, u205, u206, u207, u208, u209, u210, u211, u212, u213, u214, u215, u216, u217, u218, u219, u220, u221, u222, u223, u224, u225, u226, u227, u228, u229, u230, u231, u232, u233, u234, u235, u236, u237, u238, u239, u240, u241, u242, u243, u244, u245, u246, u247, u248, u249, u250, u251, u252, u253, u254, u255, u256, u257, u258, u259, u260, u261, u262, u263, u264, u265, u266, u267, u268, u269, u270, u271, u272, u273, u274, u275, u276, u277, u278, u279, u280, u281, u282, u283, u284, u285, u286, u287, u288, u289, u290, u291, u292, u293, u294, u295, u296, u297, u298, u299, u300, u301, u302, u303, u304, u305, u306, u307, u308, u309, u310, u311, u312, u313, u314, u315, u316, u317, u318, u319, u320, u321, u322, u323, u324, u325, u326, u327, u328, u329, u330, u331, u332, u333, u334, u335, u336, u337, u338, u339, u340, u341, u342, u343, u344, u345, u346, u347, u348, u349, u350, u351, u352, u353, u354, u355, u356, u357, u358, u359, u360, u361, u362, u363, u364, u365, u366, u367, u368, u369, u370, u371, u372, u373, u374, u375], []⟩ w := by
  conv at hK => enter [a, w', 1, 2]; whnf
  conv => arg 2; whnf
  have hmk1 := fun w => run_make_row' (P := Try.prog) 27 2 (.int .i64 0) 8 Try.underlying27 info2 rfl .i64 .i64 m (by omega) (by omega) w
  have hmk2 := fun w => run_make_row' (P := Try.prog) 48 9 (.string ByteArray.empty) 16 Try.underlying48 info9 rfl .i64 .i64 m (by omega) (by omega) w
  have hmk3 := fun w => run_make_row' (P := Try.prog) 38 4 (.bool false) 1 Try.underlying38 info4 rfl .i64 .i64 m (by omega) (by omega) w
  have HcI := hide (show ((c : Nat) : Int) < (nC : Int) by omega)
  have H1 := hide hT
  have H2 := hide hS
  have H3 := hide hP
  have H4 := hide h1
  have H5 := hide h2
  have H6 := hide h3
  have H7 := hide hbel
  have L1 := hide l1
  have L2 := hide l2
  have L3 := hide l3
  have Ln := hide hn
  have Lt := hide hlen
  have X1 := hide hnI
  have X2 := hide hps
  have X3 := hide hpr
  clear hT hS hP h1 h2 h3 hbel l1 l2 l3 hn hlen hnI hps hpr
  go_wp2_with fail
  refine (clone26 (some ⟨tB, 0, none⟩) nC nC (tx.map Value.bool) w (by omega) (by simp [unhide Lt]) (unhide H1).src (by simp) (bools_one _)).mono ?_
  rintro e w1 ⟨p', rfl, _, hK1⟩
  rw [show (tx.map Value.bool).length = nC by simp [unhide Lt]]
  have HK1 := hide hK1
  have hs1 := hK1.size
  clear hK1
  simp only []
  go_wp2_with fail
  refine (newRows29 _ _ _ _ _ _ _ _ _ _ _ _ _ _ _ _ _ _ w1).mono ?_
  rintro e w2 ⟨rfl, hL, hR, hb2⟩
  have HL := hide hL
  have HR := hide hR
  have Hb2 := hide hb2
  have hs2 := hR.lt
  clear hL hR hb2
  simp only []
  go_wp2
  obtain ⟨b1, b2, b3, hK3⟩ : Blk (((w2.alloc (.cells (madeCells #[.int .i64 0] m) 2)).alloc (.cells (madeCells #[.string ByteArray.empty] m) 9)).alloc (.cells (madeCells #[.bool false] m) 4)) w2.heap.size (List.replicate m (.int .i64 0)) 2 ∧
      Blk (((w2.alloc (.cells (madeCells #[.int .i64 0] m) 2)).alloc (.cells (madeCells #[.string ByteArray.empty] m) 9)).alloc (.cells (madeCells #[.bool false] m) 4)) (w2.heap.size + 1) (List.replicate m (.string ByteArray.empty)) 9 ∧
      Blk (((w2.alloc (.cells (madeCells #[.int .i64 0] m) 2)).alloc (.cells (madeCells #[.string ByteArray.empty] m) 9)).alloc (.cells (madeCells #[.bool false] m) 4)) (w2.heap.size + 1 + 1) (List.replicate m (.bool false)) 4 ∧
      Kp [] w2 (((w2.alloc (.cells (madeCells #[.int .i64 0] m) 2)).alloc (.cells (madeCells #[.string ByteArray.empty] m) 9)).alloc (.cells (madeCells #[.bool false] m) 4)) := by
    refine ⟨?_, ?_, ?_, (((Kp.refl _ _).alloc _).alloc _).alloc _⟩
    · have b := Blk.new w2 (madeCells #[.int .i64 0] m) 2
      rw [made_list] at b
      exact (((Kp.refl [] _).alloc _).alloc _).blk b (by simp)
    · have b := Blk.new (w2.alloc (.cells (madeCells #[.int .i64 0] m) 2)) (madeCells #[.string ByteArray.empty] m) 9
      rw [made_list] at b
      exact ((Kp.refl [] _).alloc _).blk (by simpa using b) (by simp)
    · have b := Blk.new ((w2.alloc (.cells (madeCells #[.int .i64 0] m) 2)).alloc (.cells (madeCells #[.string ByteArray.empty] m) 9)) (madeCells #[.bool false] m) 4
      rw [made_list] at b
      simpa using b
  have B1 := hide b1
  have B2 := hide b2
  have B3 := hide b3
  have HK3 := hide hK3
  clear b1 b2 b3 hK3 hmk1 hmk2 hmk3
  go_loopw [36, 37] (fun an i wr => ∃ k : Nat, k ≤ m ∧ i = .int .i64 k ∧ an = .bool (((wN nu nC c m).take k).any id) ∧ Kp [] w2 wr ∧ Blk wr w2.heap.size (fill ((wI cs nu nC c m).map (Value.int .i64)) (.int .i64 0) k) 2 ∧
    Blk wr (w2.heap.size + 1) (fill ((wS ss nu nC c m).map Value.string) (.string ByteArray.empty) k) 9 ∧ Blk wr (w2.heap.size + 1 + 1) (fill ((wN nu nC c m).map Value.bool) (.bool false) k) 4) (fun _ i _ => m - (intOf i).toNat)
  case atStart =>
    refine ⟨0, Nat.zero_le _, rfl, by simp, unhide HK3, ?_, ?_, ?_⟩
    · rw [fill_zero]; simpa [wI] using unhide B1
    · rw [fill_zero]; simpa [wS] using unhide B2
    · rw [fill_zero]; simpa [wN] using unhide B3
  case round =>
    obtain ⟨k, hk, rfl, rfl, hKr, b1, b2, b3⟩ := hrel
    have hbr : Below w.heap.size w wr := ((unhide HK1).toBelow.trans ((unhide Hb2).mono hs1)).trans (hKr.toBelow.mono (by omega))
    clear B1 B2 B3 HK3
    by_cases hlt : k < m
    · have hmul : k * nC + nC ≤ m * nC := by
        have := Nat.mul_le_mul_right nC (Nat.succ_le_of_lt hlt)
        rw [Nat.succ_mul] at this; exact this
      have hmn : m * nC ≤ 8320 := Nat.mul_le_mul hm hnC
      have hidx : k * nC + c < n := by rw [unhide Ln]; omega
      obtain ⟨b1', o1, rfl, hb1', hc1⟩ := (unhide H4) (by simp [unhide L1]; omega)
      obtain ⟨b2', o2, rfl, hb2', hc2⟩ := (unhide H5) (by simp [unhide L2]; omega)
      obtain ⟨b3', o3, rfl, hb3', hc3⟩ := (unhide H6) (by simp [unhide L3]; omega)
      obtain ⟨z, hz⟩ := getElem?_lt_some cs (k * nC + c) (by rw [unhide L1]; exact hidx)
      obtain ⟨sv, hsv⟩ := getElem?_lt_some ss (k * nC + c) (by rw [unhide L2]; exact hidx)
      obtain ⟨nb, hnb⟩ := getElem?_lt_some nu (k * nC + c) (by rw [unhide L3]; exact hidx)
      have e1 : wr.cell? ⟨b1', o1 + (k * nC + c), none⟩ = some (.int .i64 z) := old_cell hbr (hc1 _ _ (by simp [hz]))
      have e2 : wr.cell? ⟨b2', o2 + (k * nC + c), none⟩ = some (.string sv) := old_cell hbr (hc2 _ _ (by simp [hsv]))
      have e3 : wr.cell? ⟨b3', o3 + (k * nC + c), none⟩ = some (.bool nb) := old_cell hbr (hc3 _ _ (by simp [hnb]))
      have d1 := b1.cell (fill_at _ _ _ (by simpa [wI] using hlt))
      have d2 := b2.cell (fill_at _ _ _ (by simpa [wS] using hlt))
      have d3 := b3.cell (fill_at _ _ _ (by simpa [wN] using hlt))
      have f1 := b1.frozen k
      have f2 := b2.frozen k
      have f3 := b3.frozen k
      have i1 : (k : Int) * (nC : Int) ≤ 8320 := mul_le_int k nC 8320 (by omega)
      have i0 := mul_nonneg_int k nC
      have i2 := idx_lt_int k nC c n hidx
      have i3 := idx_toNat k nC c
      have i4 : (k : Int) < (m : Int) := by omega
      have q11 : b1' ≠ w2.heap.size := by omega
      have q12 : b1' ≠ w2.heap.size + 1 := by omega
      have q13 : b1' ≠ w2.heap.size + 1 + 1 := by omega
      have q21 : b2' ≠ w2.heap.size := by omega
      have q22 : b2' ≠ w2.heap.size + 1 := by omega
      have q23 : b2' ≠ w2.heap.size + 1 + 1 := by omega
      have q31 : b3' ≠ w2.heap.size := by omega
      have q32 : b3' ≠ w2.heap.size + 1 := by omega
      have q33 : b3' ≠ w2.heap.size + 1 + 1 := by omega
      have n1 : w2.heap.size ≠ w2.heap.size + 1 := by omega
      have n2 : w2.heap.size ≠ w2.heap.size + 1 + 1 := by omega
      have n3 : w2.heap.size + 1 ≠ w2.heap.size + 1 + 1 := by omega
      have hNk : (wN nu nC c m)[k]? = some nb := by rw [wN, map_range_at _ _ _ hlt]; simp [nuAt, hnb]
      have hIk : (wI cs nu nC c m)[k]? = some (if nb then 0 else z) := by rw [wI, map_range_at _ _ _ hlt]; simp [wIat, nuAt, hnb, hz]
      have hSk : (wS ss nu nC c m)[k]? = some (if nb then ByteArray.empty else sv) := by rw [wS, map_range_at _ _ _ hlt]; simp [wSat, nuAt, hnb, hsv]
      have hany := any_take_succ _ _ _ hNk
      have C1 := hide b1
      have C2 := hide b2
      have C3 := hide b3
      have CN := hide hNk
      have CI := hide hIk
      have CS := hide hSk
      have CA := hide hany
      have CK := hide hKr
      clear b1 b2 b3 hNk hIk hSk hany hKr hc1 hc2 hc3 hz hsv hnb hmul hmn hbr hxc hcs
      cases nb
      · go_wp2
        go_roundw
        case rel =>
          obtain ⟨t1, t2, t3⟩ := three_set (k := k) (unhide C1) (unhide C2) (unhide C3) n1 n2 n3 (.int .i64 z) (.string sv) (.bool false)
          refine ⟨k + 1, by omega, by go_num, by rw [unhide CA]; simp, (((unhide CK).setCell (.inr (by simp; omega)) _).setCell (.inr (Nat.le_refl _)) _).setCell (.inr (Nat.le_succ _)) _, ?_, ?_, ?_⟩
          · rw [← fill_set _ _ _ (.int .i64 z) (by simp [unhide CI])]; exact t1
          · rw [← fill_set _ _ _ (.string sv) (by simp [unhide CS])]; exact t2
          · rw [← fill_set _ _ _ (.bool false) (by simp [unhide CN])]; exact t3
        case measure => simp [intOf]; omega
      · go_wp2
        go_roundw
        case rel =>
          refine ⟨k + 1, by omega, by go_num, by rw [unhide CA]; simp, (unhide CK).setCell (.inr (by simp; omega)) _, ?_, ?_, ?_⟩
          · rw [fill_skip _ _ _ (by simp [unhide CI])]; exact ((Kp.refl [w2.heap.size + 1 + 1] wr).setCell (.inl (by simp)) _).blk (unhide C1) (by simp <;> omega)
          · rw [fill_skip _ _ _ (by simp [unhide CS])]; exact ((Kp.refl [w2.heap.size + 1 + 1] wr).setCell (.inl (by simp)) _).blk (unhide C2) (by simp <;> omega)
          · rw [← fill_set _ _ _ (.bool true) (by simp [unhide CN])]; exact (unhide C3).set k _
        case measure => simp [intOf]; omega
    · obtain rfl : k = m := by omega
      rw [fill_all _ _ _ (by simp [wI])] at b1
      rw [fill_all _ _ _ (by simp [wS])] at b2
      rw [fill_all _ _ _ (by simp [wN])] at b3
      rw [List.take_of_length_le (by simp [wN])]
      obtain ⟨an, han⟩ : ∃ an, (wN nu nC c k).any id = an := ⟨_, rfl⟩
      rw [han]
      have hR2 := hKr.blk (unhide HR) (by simp)
      have hL2 := hKr.blk (unhide HL) (by simp)
      have hS2 := (Below.kp hbr).blk (unhide H2) (by simp)
      have hT2 := (Below.kp hbr).blk (unhide H1) (by simp)
      have hP2 := (unhide H3).below hbr
      have hsl := (unhide H2).lt
      have hB2 : Batch wr (w1.heap.size + 1) w1.heap.size sB rwB txB k nC c (slotOf tx c) pr ps nI bw bt xc (wI cs nu nC c k) (wS ss nu nC c k) (wN nu nC c k) :=
        batch_of (w1.heap.size + 1) w1.heap.size sB rwB txB k nC c nI pr ps bw bt tx cs ss nu xc hP2 hxc (unhide Lt) (unhide X1) (unhide X2) (unhide X3) hm hc hnC hcs
          (hR2.cell rfl) (hR2.cell rfl) (hR2.cell rfl) (hL2.cell rfl) (hL2.cell rfl) (hS2.cell (by simp [hc])) (by omega) (by omega) (by omega) (by omega)
          (fun i hi => by obtain ⟨_, W, hW, _⟩ := (unhide H3).rows i hi; have := hW.lt; omega) (fun i hi => by obtain ⟨_, W, hW, _⟩ := (unhide H3).txts i hi; have := hW.lt; omega)
      have hTc : wr.cell? ⟨tB, c, none⟩ = some (.bool xc) := hT2.cell (by simp [hxc])
      have htl := (unhide H1).lt
      have hbel2 : Below w0.heap.size w0 wr := (unhide H7).trans (hbr.mono (unhide H7).size)
      have hsz0 := (unhide H7).size
      have hcan := hB2.can 0 0 none [] (by simp) (hR2.cell rfl) (by simp) rfl
      have hW2 : Want wr w2.heap.size (w2.heap.size + 1) (w2.heap.size + 1 + 1) k (wI cs nu nC c k) (wS ss nu nC c k) (wN nu nC c k) := ⟨b1, b2, b3, by simp [wI], by simp [wS], by simp [wN]⟩
      have lwn := b3.lt
      have HC := hide hcan
      have A1 := hide hR2
      have A2 := hide hB2
      have A3 := hide hW2
      have A5 := hide hbel2
      have A6 := hide han
      have hcI := unhide HcI
      clear hR2 hL2 hS2 hT2 hP2 hB2 hbel2 b1 b2 b3 hKr hbr hxc hcs han hcan hW2
      go_wp2_with fail
      refine (agree30 (w1.heap.size + 1) c k w2.heap.size (w2.heap.size + 1) (w2.heap.size + 1 + 1) xc _ _ _ an wr hm (unhide HC) (unhide A3) (unhide A6)).mono ?_
      rintro e w3 ⟨rfl, hb3⟩
      have hs3 := hb3.size
      have hR3 := (Below.kp hb3).blk (unhide A1) (by simp)
      have D1 := hide hR3
      have D2 := hide ((unhide A2).upd (hb3.mono (by omega)) (hR3.cell rfl) (hR3.cell rfl) (hR3.cell rfl))
      have D3 := hide ((unhide A3).kp (Below.kp hb3) (by simp) (by simp) (by simp))
      have D4 := hide (old_cell hb3 hTc)
      have D5 := hide ((unhide A5).trans (hb3.mono (unhide A5).size))
      clear hb3 hR3 hTc HC A1 A2 A3
      simp only []
      go_upto_region 77 with fail
      refine colD1 tB (w1.heap.size + 1) w1.heap.size sB rwB txB w2.heap.size (w2.heap.size + 1) (w2.heap.size + 1 + 1) k nC c (slotOf tx c) pr ps nI bw bt xc an other _ _ _ _ w0 w3 _ _ _ _ _ _ _ _ _ _ _ _ _ _ _ _ _ _ _ _ _ _ _ _ _ _ _ _ _ _ _ _ _ _ _ _ _ _ _ _ _ _ _ _ _ _ _ _ _ _ _ _ _ _ _ _ _ _ _ _ _ _ _ _ _ _ _ _ _ _ _ _ _ _ _ _ _ _ _ _ _ _ _ _ _ _ _ _ _ _ _ _ _ _ _ _ _ _ _ _ _ _ _ _ _ _ _ _ _ _ _ _ _ _ _ _ _ _ _ _ _ _ _ _ _ _ _ _ _ _ _ _ _ _ _ _ _ _ _ _ _ _ _ _ _ _ _ _ _ _ _ _ _ _ _ _ _ _ _ _ _ _ _ _ _ _ _ _ _ _ _ _ _ _ _ _ _ _ _ _ _ _ _ _ _ _ _ _ _ _ _ _ _ _ _ _ _ _ _ _ _ _ _ _ _ _ _ _ _ _ _ _ _ _ _ _ _ _ _ _ _ _ _ _ _ _ _ _ _ _ _ _ _ _ _ _ _ _ _ _ _ _ _ _ _ _ _ _ _ _ _ _ _ _ _ _ _ _ _ _ _ _ _ _ _ _ _ _ _ _ _ _ _ _ _ _ _ _ _ _ _ _ _ _ _ _ _ _ _ _ _ _ _ _ _ _ _ _ _ _ _ _ _ _ _ _ _ _ _ _ _ _ _ _ _ _ _ _ _ _ _ _ _ _ _ _ _ _ _ _ _ _ _ _ _ _ _ _ _ _ _ _ _ _ _ _ _ _ _ _ _ _ _ _ _ _ _ _ _ _ _ _ _ _ _ _ _
        (unhide D2) (unhide D3) (unhide A6) hoc (unhide D1) (unhide D4) (by omega) (by omega) (by omega) (by omega) (by omega) (unhide D5) _ ?_
      assumption


end Go.Proofs.Qxb6001672a
