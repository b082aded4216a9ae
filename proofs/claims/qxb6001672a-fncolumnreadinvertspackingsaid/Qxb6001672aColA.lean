/-
  FnColumnReadInvertsPacking (7): the copies, the columns' slots.
-/
import Derived.Test.Qxb6001672aColB
set_option linter.unusedSimpArgs false
set_option linter.unusedVariables false
namespace Go.Proofs.Qxb6001672a
open Go.RowKit

set_option maxRecDepth 1000000 in
set_option maxHeartbeats 2000000 in
theorem colA (m nC c n c0 c1 c2 c3 : Nat) (p0 p1 p2 p3 : Option Addr) (other : Int) (tx : List Bool) (cs : List Int) (ss : List ByteArray) (nu : List Bool) (w : World) (u7 u8 u9 u10 u11 u12 u13 u14 u15 u16 u18 u19 u20 u21 u22 u23 u24 u25 u26 u27 u28 u29 u30 u31 u32 u33 u34 u35 u36 u37 u38 u39 u40 u41 u42 u43 u44 u45 u46 u47 u48 u49 u50 u51 u52 u53 u54 u55 u56 u57 u58 u59 u60 u61 u62 u63 u64 u65 u66 u67 u68 u69 u70 u71 u72 u73 u74 u75 u76 u77 u78 u79 u80 u81 u82 u83 u84 u85 u86 u87 u88 u89 u90 u91 u92 u93 u94 u95 u96 u97 u98 u99 u100 u101 u102 u103 u104 u105 u106 u107 u108 u109 u110 u111 u112 u113 u114 u115 u116 u117 u118 u119 u120 u121 u122 u123 u124 u125 u126 u127 u128 u129 u130 u131 u132 u133 u134 u135 u136 u137 u138 u139 u140 u141 u142 u143 u144 u145 u146 u147 u148 u149 u150 u151 u152 u153 u154 u155 u156 u157 u158 u159 u160 u161 u162 u163 u164 u165 u166 u167 u168 u169 u170 u171 u172 u173 u174 u175 u176 u177 u178 u179 u180 u181 u182 u183 u184 u185 u186 u187 u188 u189 u190 u191 u192 u193 u194 u195 u196 u197 u198 u199 u200 u201 u202 u203 u204 u205 u206 u207 u208 u209 u210 u211 u212 u213 u214 u215 u216 u217 u218 u219 u220 u221 u222 u223 u224 u225 u226 u227 u228 u229 u230 u231 u232 u233 u234 u235 u236 u237 u238 u239 u240 u241 u242 u243 u244 u245 u246 u247 u248 u249 u250 u251 u252 u253 u254 u255 u256 u257 u258 u259 u260 u261 u262 u263 u264 u265 u266 u267 u268 u269 u270 u271 u272 u273 u274 u275 u276 u277 u278 u279 u280 u281 u282 u283 u284 u285 u286 u287 u288 u289 u290 u291 u292 u293 u294 u295 u296 u297 u298 u299 u300 u301 u302 u303 u304 u305 u306 u307 u308 u309 u310 u311 u312 u313 u314 u315 u316 u317 u318 u319 u320 u321 u322 u323 u324 u325 u326 u327 u328 u329 u330 u331 u332 u333 u334 u335 u336 u337 u338 u339 u340 u341 u342 u343 u344 u345 u346 u347 u348 u349 u350 u351 u352 u353 u354 u355 u356 u357 u358 u359 u360 u361 u362 u363 u364 u365 u366 u367 u368 u369 u370 u371 u372 u373 u374 u375 : Value)
    (h0 : Src w p0 (tx.map Value.bool)) (h1 : Src w p1 (cs.map (Value.int .i64))) (h2 : Src w p2 (ss.map Value.string)) (h3 : Src w p3 (nu.map Value.bool)) (hlen : tx.length = nC) (l1 : cs.length = n) (l2 : ss.length = n) (l3 : nu.length = n) (hn : n = m * nC)
    (z0 : p0 = none → nC = 0 ∧ c0 = 0) (z1 : p1 = none → n = 0 ∧ c1 = 0) (z2 : p2 = none → n = 0 ∧ c2 = 0) (z3 : p3 = none → n = 0 ∧ c3 = 0)
    (hm : m ≤ 64) (hc : c < nC) (hnC : nC ≤ 130) (hcs : ∀ z ∈ cs, -9223372036854775808 ≤ z ∧ z ≤ 9223372036854775807) (hoc : other ≠ c)
    (K : Act → World → Prop) (hK : ∀ a w', Code.wp Try.prog (restOf 26 Try.f7) (bodyPost Try.prog Try.f7 (RetTrue w)) a w' → K a w') :
    Code.wp Try.prog (headOf 26 Try.f7) (Exit.then K (bodyPost Try.prog Try.f7 (RetTrue w))) ⟨#[.slice p0 nC c0, .slice p1 n c1, .slice p2 n c2, .slice p3 n c3, .int .i64 m, .int .i64 c, .int .i64 other, u7, u8, u9, u10, u11, u12, u13, u14, u15, u16, .int .i64 nC, u18, u19, u20, u21, u22, u23, u24, u25, u26, u27, u28, u29, u30, u31, u32, u33, u34, u35, u36, u37, u38, u39, u40, u41, u42, u43, u44, u45, u46, u47, u48, u49, u50, u51, u52, u53, u54, u55, u56, u57, u58, u59, u60, u61, u62, u63, u64, u65, u66, u67, u68, u69, u70, u71, u72, u73, u74, u75, u76, u77, u78, u79, u80, u81, u82, u83, u84, u85, u86, u87, u88, u89, u90, u91, u92, u93, u94, u95, u96, u97, u98, u99, u100, u101, u102, u103, u104, u105, u106, u107, u108, u109, u110, u111, u112, u113, u114, u115, u116, u117, u118, u119, u120, u121, u122, u123, u124, u125, u126, u127, u128, u129, u130, u131, u132, u133, u134, u135, u136, u137, u138, u139, u140, u141, u142, u143, u144, u145, u146, u147, u148, u149, u150, u151, u152, u153, u154, u155, u156, u157, u158, u159, u160, u161, u162, u163, u164, u165, u166, u167, u168, u169, u170, u171, u172, u173, u174, u175, u176, u177, u178, u179, u180, u181, u182, u183, u184, u185, u186, u187, u188, u189, u190, u191, u192, u193, u194, u195, u196, u197, u198, u199, u200, u201, u202, u203, u204, u205, u206, u207, u208, u209, u210, u211, u212, u213, u214, u215, u216, u217, u218, u219, u220, u221, u222, u223, u224, u225, u226, u227, u228, u229, u230, u231, u232, u233, u234, u235, u236, u237, u238, u239, u240, u241, u242, u243, u244, u245, u246, u247, u248, u249, u250, u251, u252, u253, u254, u255, u256, u257, u258, u259, u260, u261, u262, u263, u264, u265, u266, u267, u268, u269, u270, u271, u272, u273, u274, u275, u276, u277, u278, u279, u280, u281, u282, u283, u284, u285, u286, u287, u288, u289, u290, u291, u292, u293, u294, u295, u296, u297, u298, u299, u300, u301, u302, u303, u304, u305, u306, u307, u308, u309, u310, u311, u312, u313, u314, u315, u316, u317, u318, u319, u320, u321, u322, u323, u324, u325, u326, u327, u328, u329, u330, u331, u332, u333, u334, u335, u336, u337, u338, u339, u340, u341, u342, u343, u344, u345, u346, u347, u348, u349, u350, u351, u352, u353, u354, u355, u356, u357, u358, u359, u360, u361, u362, u363, u364, u365, u366, u367, u368, u369, u370, u371, u372, u373, u374, u375], []⟩ w := by
  conv at hK => enter [a, w', 1, 2]; whnf
  conv => arg 2; whnf
  obtain ⟨xc, hxc⟩ := getElem?_lt_some tx c (by omega)
  have hmn : m * nC ≤ 8320 := Nat.mul_le_mul hm hnC
  have hmk := fun w => run_make_row' (P := Try.prog) 37 3 (.int .i64 0) 8 Try.underlying37 info3 rfl .i64 .i64 nC (by omega) (by omega) w
  have H1 := hide h1
  have H2 := hide h2
  have H3 := hide h3
  have L1 := hide l1
  have L2 := hide l2
  have L3 := hide l3
  have Ln := hide hn
  have Lt := hide hlen
  have hn8 : n ≤ 8320 := by omega
  have Z1 := hide z1
  have Z2 := hide z2
  have Z3 := hide z3
  have X4 := hide hxc
  have X5 := hide hcs
  have HC := hide (clone26 p0 nC c0 (tx.map Value.bool) w (by omega) (by simp [hlen]) h0 z0 (bools_one _))
  clear h0 h1 h2 h3 l1 l2 l3 hn z0 z1 z2 z3 hxc hcs hmn hlen
  go_wp2_with fail
  refine (unhide HC).mono ?_
  rintro e w1 ⟨q0, rfl, hq0, hK1⟩
  rw [show (tx.map Value.bool).length = nC by simp [unhide Lt]] at hq0 ⊢
  obtain ⟨rfl, hT1⟩ := hq0 (by omega)
  have HT1 := hide hT1
  have HK1 := hide hK1
  have hs1 := hT1.lt
  have HC2 := hide (clone27 p1 n c1 (cs.map (Value.int .i64)) w1 (by omega) (by simp [unhide L1]) ((unhide H1).below hK1.toBelow) (unhide Z1) (ints_one _ _))
  clear hq0 hT1 hK1 HC
  simp only []
  go_wp2_with fail
  refine (unhide HC2).mono ?_
  rintro e w2 ⟨q1, rfl, hq1, hK2⟩
  rw [show (cs.map (Value.int .i64)).length = n by simp [unhide L1]] at hq1 ⊢
  have hs2 := hK2.size
  have Hq1 := hide hq1
  have HK2 := hide hK2
  have HC3 := hide (clone28 p2 n c2 (ss.map Value.string) w2 (by omega) (by simp [unhide L2]) (((unhide H2).below (unhide HK1).toBelow).below hK2.toBelow) (unhide Z2) (strs_one _))
  clear hq1 hK2 HC2
  simp only []
  go_wp2_with fail
  refine (unhide HC3).mono ?_
  rintro e w3 ⟨q2, rfl, hq2, hK3⟩
  rw [show (ss.map Value.string).length = n by simp [unhide L2]] at hq2 ⊢
  have hs3 := hK3.size
  have Hq2 := hide hq2
  have HK3 := hide hK3
  have HC4 := hide (clone26 p3 n c3 (nu.map Value.bool) w3 (by omega) (by simp [unhide L3]) ((((unhide H3).below (unhide HK1).toBelow).below (unhide HK2).toBelow).below hK3.toBelow) (unhide Z3) (bools_one _))
  clear hq2 hK3 HC3
  simp only []
  go_wp2_with fail
  refine (unhide HC4).mono ?_
  rintro e w4 ⟨q3, rfl, hq3, hK4⟩
  rw [show (nu.map Value.bool).length = n by simp [unhide L3]] at hq3 ⊢
  have hs4 := hK4.size
  have src1 : Src w4 q1 (cs.map (Value.int .i64)) := fun h => by
    obtain ⟨rfl, hb⟩ := (unhide Hq1) (by simpa [unhide L1] using h)
    exact (hK4.blk ((unhide HK3).blk hb (by simp)) (by simp)).src h
  have src2 : Src w4 q2 (ss.map Value.string) := fun h => by
    obtain ⟨rfl, hb⟩ := (unhide Hq2) (by simpa [unhide L2] using h)
    exact (hK4.blk hb (by simp)).src h
  have src3 : Src w4 q3 (nu.map Value.bool) := fun h => by
    obtain ⟨rfl, hb⟩ := hq3 (by simpa [unhide L3] using h)
    exact hb.src h
  have hT4 := hK4.blk ((unhide HK3).blk ((unhide HK2).blk (unhide HT1) (by simp)) (by simp)) (by simp)
  have hbel4 : Below w.heap.size w w4 := ((((unhide HK1).trans (unhide HK2)).trans (unhide HK3)).trans hK4).toBelow
  have S1 := hide src1
  have S2 := hide src2
  have S3 := hide src3
  have T4 := hide hT4
  have B4 := hide hbel4
  clear src1 src2 src3 hT4 hbel4 hq3 hK4 HC4 Hq1 Hq2 HK1 HK2 HK3 H1 H2 H3
  simp only []
  go_wp2
  go_loopw [20, 21, 22] (fun a b i wr => ∃ k : Nat, k ≤ nC ∧ i = .int .i64 k ∧ a = .int .i64 (cnt tx false k) ∧ b = .int .i64 (cnt tx true k) ∧ Kp [] w4 wr ∧ Blk wr w4.heap.size (fill ((List.range nC).map fun j => Value.int .i64 (slotOf tx j)) (.int .i64 0) k) 3) (fun _ _ i _ => nC - (intOf i).toNat)
  case atStart =>
    refine ⟨0, Nat.zero_le _, rfl, by rw [cnt_zero]; rfl, by rw [cnt_zero]; rfl, (Kp.refl _ _).alloc _, ?_⟩
    have b := Blk.new w4 (madeCells #[.int .i64 0] nC) 3
    rw [made_list] at b
    rw [fill_zero]
    simpa using b
  case round =>
    obtain ⟨k, hk, rfl, rfl, rfl, hKr, hBr⟩ := hrel
    clear hmk
    by_cases hlt : k < nC
    · obtain ⟨x, hx⟩ := getElem?_lt_some tx k (by rw [unhide Lt]; exact hlt)
      have e1 : wr.cell? ⟨w.heap.size, k, none⟩ = some (.bool x) := (hKr.blk (unhide T4) (by simp)).cell (by simp [hx])
      have d1 := hBr.cell (fill_at _ _ _ (by simpa using hlt))
      have f1 := hBr.frozen k
      have i1 : (k : Int) < (nC : Int) := by omega
      have u1 := cnt_le tx true k
      have u2 := cnt_le tx false k
      have g1 := cnt_succ tx true x k hx
      have g2 := cnt_succ tx false x k hx
      have G1 := hide g1
      have G2 := hide g2
      have G3 := hide (slotOf_eq tx k x hx)
      have HB := hide hBr
      have HK := hide hKr
      clear g1 g2 hx hBr hKr
      cases x
      · go_wp2
        go_roundw
        case rel =>
          refine ⟨k + 1, by omega, by go_num, by rw [unhide G2]; go_num, by rw [unhide G1]; simp, (unhide HK).setCell (.inr (Nat.le_refl _)) _, ?_⟩
          rw [← fill_set _ _ _ (.int .i64 (cnt tx false k)) (by rw [map_range_at _ _ _ hlt, unhide G3])]
          exact (unhide HB).set k _
        case measure => simp [intOf]; omega
      · go_wp2
        go_roundw
        case rel =>
          refine ⟨k + 1, by omega, by go_num, by rw [unhide G2]; simp, by rw [unhide G1]; go_num, (unhide HK).setCell (.inr (Nat.le_refl _)) _, ?_⟩
          rw [← fill_set _ _ _ (.int .i64 (cnt tx true k)) (by rw [map_range_at _ _ _ hlt, unhide G3])]
          exact (unhide HB).set k _
        case measure => simp [intOf]; omega
    · obtain rfl : k = nC := by omega
      rw [fill_all _ _ _ (by simp)] at hBr
      have hbr := hKr.toBelow
      have E1 := hide (hKr.blk (unhide T4) (by simp))
      have E2 := hide hBr
      have E4 := hide ((unhide S1).below hbr)
      have E5 := hide ((unhide S2).below hbr)
      have E6 := hide ((unhide S3).below hbr)
      have E7 := hide ((unhide B4).trans (hbr.mono (unhide B4).size))
      clear hbr hKr hBr
      go_upto_region 41 with fail
      refine colB w.heap.size w4.heap.size m k c (cnt tx false k) (cnt tx true k) n q1 q2 q3 xc other tx cs ss nu w wr _ _ _ _ _ _ _ _ _ _ _ _ _ _ _ _ _ _ _ _ _ _ _ _ _ _ _ _ _ _ _ _ _ _ _ _ _ _ _ _ _ _ _ _ _ _ _ _ _ _ _ _ _ _ _ _ _ _ _ _ _ _ _ _ _ _ _ _ _ _ _ _ _ _ _ _ _ _ _ _ _ _ _ _ _ _ _ _ _ _ _ _ _ _ _ _ _ _ _ _ _ _ _ _ _ _ _ _ _ _ _ _ _ _ _ _ _ _ _ _ _ _ _ _ _ _ _ _ _ _ _ _ _ _ _ _ _ _ _ _ _ _ _ _ _ _ _ _ _ _ _ _ _ _ _ _ _ _ _ _ _ _ _ _ _ _ _ _ _ _ _ _ _ _ _ _ _ _ _ _ _ _ _ _ _ _ _ _ _ _ _ _ _ _ _ _ _ _ _ _ _ _ _ _ _ _ _ _ _ _ _ _ _ _ _ _ _ _ _ _ _ _ _ _ _ _ _ _ _ _ _ _ _ _ _ _ _ _ _ _ _ _ _ _ _ _ _ _ _ _ _ _ _ _ _ _ _ _ _ _ _ _ _ _ _ _ _ _ _ _ _ _ _ _ _ _ _ _ _ _ _ _ _ _ _ _ _ _ _ _ _ _ _ _ _ _ _ _ _ _ _ _ _ _ _ _ _ _ _ _ _ _ _ _ _ _ _ _ _ _ _ _ _ _ _ _ _ _ _ _ _ _ _ _ _ _ _ _ _ _ _ _ _ _ _ _ _ _ _ _ _ _ _ _ _ _ _ _ _ _ _ _ _ _ _
        (unhide E1) (unhide E2) (unhide E4) (unhide E5) (unhide E6) (unhide L1) (unhide L2) (unhide L3) (unhide Ln) (unhide X4) (unhide Lt) rfl rfl hm hc hnC (unhide X5) hoc (unhide E7) _ ?_
      assumption


end Go.Proofs.Qxb6001672a
