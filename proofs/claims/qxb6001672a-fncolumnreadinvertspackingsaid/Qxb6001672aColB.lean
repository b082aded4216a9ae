/-
  FnColumnReadInvertsPacking (7): the rows are packed.
-/
import Derived.Test.Qxb6001672aColC
import Derived.Test.Qxb6001672aRowsTo
set_option linter.unusedSimpArgs false
set_option linter.unusedVariables false
namespace Go.Proofs.Qxb6001672a
open Go.RowKit
theorem info53 : (Try.prog.info? 53).map (fun i => (i.zero, i.size, i.bytes)) = some (some (.slice none 0 0), 1, 24) := by kernel_rfl
theorem info48 : (Try.prog.info? 48).map (fun i => (i.zero, i.size, i.bytes)) = some (some (.slice none 0 0), 1, 24) := by kernel_rfl
theorem info54 : (Try.prog.info? 54).map (fun i => (i.zero, i.size, i.bytes)) = some (some (.int .u64 0), 1, 8) := by kernel_rfl

set_option maxRecDepth 1000000 in
set_option maxHeartbeats 2000000 in
theorem colB (tB sB m nC c nI ps n : Nat) (p1 p2 p3 : Option Addr) (xc : Bool) (other : Int) (tx : List Bool) (cs : List Int) (ss : List ByteArray) (nu : List Bool) (w0 w : World) (u7 u8 u9 u10 u11 u12 u13 u14 u15 u16 u18 u22 u23 u24 u25 u26 u27 u28 u29 u30 u31 u32 u33 u34 u35 u36 u37 u38 u39 u40 u41 u42 u43 u44 u45 u46 u47 u48 u49 u50 u51 u52 u53 u54 u55 u56 u57 u58 u59 u60 u61 u62 u63 u64 u65 u66 u67 u68 u69 u70 u71 u72 u73 u74 u75 u76 u77 u78 u79 u80 u81 u82 u83 u84 u85 u86 u87 u88 u89 u90 u91 u92 u93 u94 u95 u96 u97 u98 u99 u100 u101 u102 u103 u104 u105 u106 u107 u108 u109 u110 u111 u112 u113 u114 u115 u116 u117 u118 u119 u120 u121 u122 u123 u124 u125 u126 u127 u128 u129 u130 u131 u132 u133 u134 u135 u136 u137 u138 u139 u140 u141 u142 u143 u144 u145 u146 u147 u148 u149 u150 u151 u152 u153 u154 u155 u156 u157 u158 u159 u160 u161 u162 u163 u164 u165 u166 u167 u168 u169 u170 u171 u172 u173 u174 u175 u176 u177 u178 u179 u180 u181 u182 u183 u184 u185 u186 u187 u188 u189 u190 u191 u192 u193 u194 u195 u196 u197 u198 u199 u200 u201 u202 u203 u204 u205 u206 u207 u208 u209 u210 u211 u212 u213 u214 u215 u216 u217 u218 u219 u220 u221 u222 u223 u224 u225 u226 u227 u228 u229 u230 u231 u232 u233 u234 u235 u236 u237 u238 u239 u240 u241 u242 u243 u244 u245 u246 u247 u248 u249 u250 u251 u252 u253 u254 u255 u256 u257 u258 u259 u260 u261 u262 u263 u264 u265 u266 u267 u268 u269 u270 u271 u272 u273 u274 u275 u276 u277 u278 u279 u280 u281 u282 u283 u284 u285 u286 u287 u288 u289 u290 u291 u292 u293 u294 u295 u296 u297 u298 u299 u300 u301 u302 u303 u304 u305 u306 u307 u308 u309 u310 u311 u312 u313 u314 u315 u316 u317 u318 u319 u320 u321 u322 u323 u324 u325 u326 u327 u328 u329 u330 u331 u332 u333 u334 u335 u336 u337 u338 u339 u340 u341 u342 u343 u344 u345 u346 u347 u348 u349 u350 u351 u352 u353 u354 u355 u356 u357 u358 u359 u360 u361 u362 u363 u364 u365 u366 u367 u368 u369 u370 u371 u372 u373 u374 u375 : Value)
    (hT : Blk w tB (tx.map Value.bool) 4) (hS : Blk w sB ((List.range nC).map fun j => Value.int .i64 (slotOf tx j)) 3)
    (h1 : Src w p1 (cs.map (Value.int .i64))) (h2 : Src w p2 (ss.map Value.string)) (h3 : Src w p3 (nu.map Value.bool)) (l1 : cs.length = n) (l2 : ss.length = n) (l3 : nu.length = n) (hn : n = m * nC)
    (hxc : tx[c]? = some xc) (hlen : tx.length = nC) (hnI : nI = cnt tx false nC) (hps : ps = cnt tx true nC)
    (hm : m ≤ 64) (hc : c < nC) (hnC : nC ≤ 130) (hcs : ∀ z ∈ cs, -9223372036854775808 ≤ z ∧ z ≤ 9223372036854775807) (hoc : other ≠ c)
    (hbel : Below w0.heap.size w0 w)
    (K : Act → World → Prop) (hK : ∀ a w', Code.wp Try.prog (restOf 41 Try.f7) (bodyPost Try.prog Try.f7 (RetTrue w0)) a w' → K a w') :
    Code.wp Try.prog (headOf 41 Try.f7) (Exit.then K (bodyPost Try.prog Try.f7 (RetTrue w0))) ⟨#[.slice (some ⟨tB, 0, none⟩) nC nC, .slice p1 n n, .slice p2 n n, .slice p3 n n, .int .i64 m, .int .i64 c, .int .i64 other, u7, u8, u9, u10, u11, u12, u13, u14, u15, u16, .int .i64 nC, u18, .slice (some ⟨sB, 0, none⟩) nC nC, .int .i64 nI, .int .i64 ps, u22, u23, u24, u25, u26, u27, u28, u29, u30, u31, u32, u33, u34, u35, u36, u37, u38, u39, u40, u41, u42, u43, u44, u45, u46, u47, u48, u49, u50, u51, u52, u53, u54, u55, u56, u57, u58, u59, u60, u61, u62, u63, u64, u65, u66, u67, u68, u69, u70, u71, u72, u73, u74, u75, u76, u77, u78, u79, u80, u81, u82, u83, u84, u85, u86, u87, u88, u89, u90, u91, u92, u93, u94, u95, u96, u97, u98, u99, u100, u101, u102, u103, u104, u105, u106, u107, u108, u109, u110, u111, u112, u113, u114, u115, u116, u117, u118, u119, u120, u121, u122, u123, u124, u125, u126, u127, u128, u129, u130, u131, u132, u133, u134, u135, u136, u137, u138, u139, u140, u141, u142, u143, u144, u145, u146, u147, u148, u149, u150, u151, u152, u153, u154, u155, u156, u157, u158, u159, u160, u161, u162, u163, u164, u165, u166, u167, u168, u169, u170, u171, u172, u173, u174, u175, u176, u177, u178, u179, u180, u181, u182, u183, u184, u185, u186, u187, u188, u189, u190, u191, u192, u193, u194, u195, u196, u197, u198, u199, u200, u201, u202, u203, u204, u205, u206, u207, u208, u209, u210, u211, u212, u213, u214, u215, u216, u217, u218, u219, u220, u221, u222, u223, u224, u225, u226, u227, u228, u229, u230, u231, u232, u233, u234, u235, u236, u237, u238, u239, u240, u241, u242, u243, u244, u245, u246, u247, u248, u249, u250, u251, u252, u253, u254, u255, u256, u257, u258, u259, u260, u261, u262, u263, u264, u265, u266, u267, u268, u269, u270, u271, u272, u273, u274, u275, u276, u277, u278, u279, u280, u281, u282, u283, u284, u285, u286, u287, u288, u289, u290, u291, u292, u293, u294, u295, u296, u297, u298, u299, u300, u301, u302, u303, u304, u305, u306, u307, u308, u309, u310, u311, u312, u313, u314, u315, u316, u317, u318, u319, u320, u321, u322, u323, u324, u325, u326, u327, u328, u329, u330, u331, u332, u333, u334, u335, u336, u337, u338, u339, u340, u341, u342, u343, u344, u345, u346, u347, u348, u349, u350, u351, u352, u353, u354, u355, u356, u357, u358, u359, u360, u361, u362, u363, u364, u365, u366, u367, u368, u369, u370, u371, u372, u373, u374, u375], []⟩ w := by
  conv at hK => enter [a, w', 1, 2]; whnf
  conv => arg 2; whnf
  obtain ⟨pr, hpr⟩ : ∃ pr, pr = nI + (nC + 63) / 64 := ⟨_, rfl⟩
  have hI1 := cnt_le tx false nC
  have hI2 := cnt_le tx true nC
  have hmk1 := fun w => run_make_row' (P := Try.prog) 51 53 (.slice none 0 0) 24 Try.underlying51 info53 rfl .i64 .i64 m (by omega) (by omega) w
  have hmk2 := fun w => run_make_row' (P := Try.prog) 52 48 (.slice none 0 0) 24 Try.underlying52 info48 rfl .i64 .i64 m (by omega) (by omega) w
  have hmk3 := fun w => run_make_row' (P := Try.prog) 53 54 (.int .u64 0) 8 Try.underlying53 info54 rfl .i64 .i64 pr (by omega) (by omega) w
  have hmk4 := fun w => run_make_row' (P := Try.prog) 48 9 (.string ByteArray.empty) 16 Try.underlying48 info9 rfl .i64 .i64 ps (by omega) (by omega) w
  have hprI : (nI : Int) + ((nC : Int) + 63) / 64 = (pr : Int) := by omega
  have hnIb : nI ≤ 130 := by omega
  have hpsb : ps ≤ 130 := by omega
  have H1 := hide hT
  have H2 := hide hS
  have H4 := hide h1
  have H5 := hide h2
  have H6 := hide h3
  have H7 := hide hbel
  have L1 := hide l1
  have L2 := hide l2
  have L3 := hide l3
  have Ln := hide hn
  have Lt := hide hlen
  have X1 := hide hnI
  have X2 := hide hps
  have X3 := hide hpr
  have X4 := hide hxc
  have X5 := hide hcs
  clear hT hS h1 h2 h3 hbel l1 l2 l3 hn hlen hnI hps hpr hI1 hI2 hxc hcs
  go_wp2
  go_loopw [27] (fun i wr => ∃ k : Nat, k ≤ m ∧ i = .int .i64 k ∧ RowsTo w wr m nC c nI ps pr tx cs ss nu k) (fun i _ => m - (intOf i).toNat)
  case atStart => exact ⟨0, Nat.zero_le _, rfl, rowsTo_start w m nC c nI ps pr tx cs ss nu⟩
  case round =>
    obtain ⟨k, hk, rfl, hrow⟩ := hrel
    clear hmk1 hmk2
    rename World => wo
    by_cases hlt : k < m
    · have hmul : k * nC + nC ≤ m * nC := by
        have := Nat.mul_le_mul_right nC (Nat.succ_le_of_lt hlt)
        rw [Nat.succ_mul] at this; exact this
      have hmn : m * nC ≤ 8320 := Nat.mul_le_mul hm hnC
      have hnn : k * nC + nC ≤ n := by rw [unhide Ln]; omega
      obtain ⟨b1, o1, rfl, hb1, hc1⟩ := (unhide H4) (by simp [unhide L1]; omega)
      obtain ⟨b2, o2, rfl, hb2, hc2⟩ := (unhide H5) (by simp [unhide L2]; omega)
      obtain ⟨b3, o3, rfl, hb3, hc3⟩ := (unhide H6) (by simp [unhide L3]; omega)
      have Hc1 := hide hc1
      have Hc2 := hide hc2
      have Hc3 := hide hc3
      have Hrow := hide hrow
      have hbsz := hrow.bel.size
      have hosz := hrow.size
      have HI := hide (show tx[c]? = some false → slotOf tx c < nI from fun h => by rw [unhide X1]; exact slotOf_lt tx c false h nC hc)
      have HS := hide (show tx[c]? = some true → slotOf tx c < ps from fun h => by rw [unhide X2]; exact slotOf_lt tx c true h nC hc)
      have i1 : (k : Int) * (nC : Int) ≤ 8320 := mul_le_int k nC 8320 (by omega)
      have i0 := mul_nonneg_int k nC
      clear hc1 hc2 hc3 hrow hosz
      have i4 : (k : Int) < (m : Int) := by omega
      go_wp2
      go_loopw [30] (fun j v => ∃ q : Nat, q ≤ nC ∧ j = .int .i64 q ∧ RowAt wo v c nI ps pr tx (nuAt nu nC c k) (cs.getD (k * nC + c) 0) (ss.getD (k * nC + c) ByteArray.empty) q) (fun j _ => nC - (intOf j).toNat)
      case atStart => exact ⟨0, Nat.zero_le _, rfl, rowAt_start wo c nI ps pr tx _ _ _ (fun h => by have := (unhide HI) h; have := unhide X3; omega) (unhide HS)⟩
      case round =>
        obtain ⟨j, hj, rfl, hat⟩ := hrel
        clear hmk3 hmk4
        by_cases hjl : j < nC
        · have hidx : k * nC + j < n := by omega
          have hbv : Below w.heap.size w wr := (unhide Hrow).bel.trans (hat.kp.toBelow.mono hbsz)
          obtain ⟨z, hz⟩ := getElem?_lt_some cs (k * nC + j) (by rw [unhide L1]; exact hidx)
          obtain ⟨sv, hsv⟩ := getElem?_lt_some ss (k * nC + j) (by rw [unhide L2]; exact hidx)
          obtain ⟨nb, hnb⟩ := getElem?_lt_some nu (k * nC + j) (by rw [unhide L3]; exact hidx)
          obtain ⟨x, hx⟩ := getElem?_lt_some tx j (by rw [unhide Lt]; exact hjl)
          have e1 : wr.cell? ⟨b1, o1 + (k * nC + j), none⟩ = some (.int .i64 z) := old_cell hbv ((unhide Hc1) _ _ (by simp [hz]))
          have e2 : wr.cell? ⟨b2, o2 + (k * nC + j), none⟩ = some (.string sv) := old_cell hbv ((unhide Hc2) _ _ (by simp [hsv]))
          have e3 : wr.cell? ⟨b3, o3 + (k * nC + j), none⟩ = some (.bool nb) := old_cell hbv ((unhide Hc3) _ _ (by simp [hnb]))
          have e4 : wr.cell? ⟨tB, j, none⟩ = some (.bool x) := old_cell hbv ((unhide H1).cell (by simp [hx]))
          have e5 : wr.cell? ⟨sB, j, none⟩ = some (.int .i64 (slotOf tx j)) := old_cell hbv ((unhide H2).cell (by simp [hjl]))
          have i2 := idx_lt_int k nC j n hidx
          have i3 := idx_toNat k nC j
          have i5 : (j : Int) < (nC : Int) := by omega
          obtain ⟨W, hWB, hWok⟩ := hat.words
          obtain ⟨T, hTB, hTok⟩ := hat.strs
          have Hcj1 := hide (show c = j → nuAt nu nC c k = nb from fun e => by subst e; simp [nuAt, hnb])
          have Hcj2 := hide (show c = j → z = cs.getD (k * nC + c) 0 from fun e => by subst e; simp [hz])
          have Hcj3 := hide (show c = j → sv = ss.getD (k * nC + c) ByteArray.empty from fun e => by subst e; simp [hsv])
          have Hx := hide hx
          have Hat := hide hat
          have hpr := unhide X3
          cases nb
          · cases x
            · have hsl : slotOf tx j < nI := by rw [unhide X1]; exact slotOf_lt tx j false hx nC hjl
              have hl := hWok.len
              obtain ⟨ov, hov⟩ := getElem?_lt_some W (slotOf tx j) (by omega)
              have d1 : wr.cell? ⟨wo.heap.size, slotOf tx j, none⟩ = some (.int .u64 ov) := hWB.cell (by simp [hov])
              have f1 := hWB.frozen (slotOf tx j)
              have i6 : (slotOf tx j : Int) < (pr : Int) := by omega
              have Hs := hide hsl
              have Hp := hide hpr
              clear hz hsv hnb hx hbv hat hWB hWok hTB hTok hmul hmn hidx hov hl hsl hpr
              go_wp2
              go_region
              all_goals go_wp2
              all_goals go_roundw
              case rel =>
                exact ⟨j + 1, by omega, by go_num, ((unhide Hat).int z (unhide Hx) (unhide Hs) (by have := unhide Hp; omega) (fun e => ⟨(unhide Hcj1) e, (unhide Hcj2) e⟩)).drew⟩
              case measure => simp [intOf]; omega
            · have hsl : slotOf tx j < ps := by rw [unhide X2]; exact slotOf_lt tx j true hx nC hjl
              have hl := hTok.len
              obtain ⟨ov, hov⟩ := getElem?_lt_some T (slotOf tx j) (by omega)
              have d1 : wr.cell? ⟨wo.heap.size + 1, slotOf tx j, none⟩ = some (.string ov) := hTB.cell (by simp [hov])
              have f1 := hTB.frozen (slotOf tx j)
              have i6 : (slotOf tx j : Int) < (ps : Int) := by omega
              have Hs := hide hsl
              have Hp := hide hpr
              clear hz hsv hnb hx hbv hat hWB hWok hTB hTok hmul hmn hidx hov hl hsl hpr
              go_wp2
              go_region
              all_goals go_wp2
              all_goals go_roundw
              case rel =>
                exact ⟨j + 1, by omega, by go_num, ((unhide Hat).str sv (unhide Hx) (unhide Hs) (fun e => ⟨(unhide Hcj1) e, (unhide Hcj3) e⟩)).drew⟩
              case measure => simp [intOf]; omega
          · obtain ⟨y, hy, hWy⟩ := hWok.nul (nI + j / 64) (by omega) (by omega)
            have d1 : wr.cell? ⟨wo.heap.size, nI + j / 64, none⟩ = some (.int .u64 y) := hWB.cell (by simp [hWy])
            have f1 := hWB.frozen (nI + j / 64)
            have i6 : (nI : Int) + (j : Int) / 64 < (pr : Int) := by omega
            have HR := hide (hat.null W hWB hWok y hWy hy (unhide HI) (unhide Hcj1))
            have Hp := hide hpr
            clear hz hsv hnb hx hbv hat hWB hWok hTB hTok hmul hmn hidx hWy hpr
            go_wp2
            go_roundw
            case rel => exact ⟨j + 1, by omega, by go_num, unhide HR⟩
            case measure => simp [intOf]; omega
        · obtain rfl : j = nC := by omega
          have c1 := (hat.kp.blk (unhide Hrow).rws (by simp)).cell (fill_at _ _ _ (by simpa using hlt))
          have c2 := (hat.kp.blk (unhide Hrow).txs (by simp)).cell (fill_at _ _ _ (by simpa using hlt))
          have f1 := (hat.kp.blk (unhide Hrow).rws (by simp)).frozen k
          have f2 := (hat.kp.blk (unhide Hrow).txs (by simp)).frozen k
          have q1 : w.heap.size ≠ w.heap.size + 1 := by omega
          have HN := hide (rowsTo_next (unhide Hrow) hlt hat)
          clear hat hmul hmn
          go_wp2
          go_roundw
          case rel => exact ⟨k + 1, by omega, by go_num, unhide HN⟩
          case measure => simp [intOf]; omega
    · obtain rfl : k = m := by omega
      have hP := rowsTo_packed hrow
      have hbo := hrow.bel
      have hs1 := hrow.rws.lt
      have hs2 := hrow.txs.lt
      have E1 := hide ((Below.kp hbo).blk (unhide H1) (by simp))
      have E2 := hide ((Below.kp hbo).blk (unhide H2) (by simp))
      have E3 := hide hP
      have E4 := hide ((unhide H4).below hbo)
      have E5 := hide ((unhide H5).below hbo)
      have E6 := hide ((unhide H6).below hbo)
      have E7 := hide ((unhide H7).trans (hbo.mono (unhide H7).size))
      clear hP hbo hrow hmk3 hmk4
      go_upto_region 61 with fail
      refine colC tB sB w.heap.size (w.heap.size + 1) k nC c nI ps pr n p1 p2 p3 _ _ xc other tx cs ss nu w0 wo _ _ _ _ _ _ _ _ _ _ _ _ _ _ _ _ _ _ _ _ _ _ _ _ _ _ _ _ _ _ _ _ _ _ _ _ _ _ _ _ _ _ _ _ _ _ _ _ _ _ _ _ _ _ _ _ _ _ _ _ _ _ _ _ _ _ _ _ _ _ _ _ _ _ _ _ _ _ _ _ _ _ _ _ _ _ _ _ _ _ _ _ _ _ _ _ _ _ _ _ _ _ _ _ _ _ _ _ _ _ _ _ _ _ _ _ _ _ _ _ _ _ _ _ _ _ _ _ _ _ _ _ _ _ _ _ _ _ _ _ _ _ _ _ _ _ _ _ _ _ _ _ _ _ _ _ _ _ _ _ _ _ _ _ _ _ _ _ _ _ _ _ _ _ _ _ _ _ _ _ _ _ _ _ _ _ _ _ _ _ _ _ _ _ _ _ _ _ _ _ _ _ _ _ _ _ _ _ _ _ _ _ _ _ _ _ _ _ _ _ _ _ _ _ _ _ _ _ _ _ _ _ _ _ _ _ _ _ _ _ _ _ _ _ _ _ _ _ _ _ _ _ _ _ _ _ _ _ _ _ _ _ _ _ _ _ _ _ _ _ _ _ _ _ _ _ _ _ _ _ _ _ _ _ _ _ _ _ _ _ _ _ _ _ _ _ _ _ _ _ _ _ _ _ _ _ _ _ _ _ _ _ _ _ _ _ _ _ _ _ _ _ _ _ _ _ _ _ _ _ _ _ _ _ _ _ _ _ _ _ _ _ _ _ _ _ _ _ _ _ _ _ _ _ _ _ _ _ _ _ _ _
        (unhide E1) (unhide E2) (unhide E3) (unhide E4) (unhide E5) (unhide E6) (unhide L1) (unhide L2) (unhide L3) (unhide Ln) (unhide X4) (unhide Lt) (unhide X1) (unhide X2) (unhide X3) hm hc hnC (unhide X5) hoc hs1 hs2 (unhide E7) _ ?_
      assumption


end Go.Proofs.Qxb6001672a
