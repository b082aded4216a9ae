/-
  FnColumnReadInvertsPacking (7), its last part: from the first found column on.
-/
import Derived.Test.Qxb6001672aCan
set_option linter.unusedSimpArgs false
set_option linter.unusedVariables false
namespace Go.Proofs.Qxb6001672a
open Go.RowKit

set_option maxRecDepth 1000000 in
set_option maxHeartbeats 2000000 in
theorem colD2 (tB rB lB sB rwB txB wiB wsB wnB m nC c slot pr ps nulls : Nat) (bw bt : Nat → Nat) (xc an : Bool) (other : Int) (V : List Int) (S : List ByteArray) (N : List Bool) (j1 j2 j3 : Option Addr) (k1 k2 k3 d1 d2 d3 : Nat) (room : Value) (w0 w : World) (u1 u2 u3 u4 u7 u8 u9 u10 u11 u12 u13 u14 u15 u16 u17 u18 u19 u20 u21 u22 u23 u24 u25 u26 u27 u28 u29 u30 u31 u37 u38 u42 u43 u44 u45 u46 u47 u48 u49 u50 u51 u52 u53 u54 u55 u56 u57 u58 u59 u60 u61 u62 u63 u64 u65 u66 u67 u68 u69 u70 u71 u72 u73 u74 u75 u76 u77 u78 u79 u80 u81 u82 u83 u84 u85 u86 u87 u88 u89 u90 u91 u92 u93 u94 u95 u96 u97 u98 u99 u100 u101 u102 u103 u104 u105 u106 u107 u108 u109 u110 u111 u112 u113 u114 u115 u116 u117 u118 u119 u120 u121 u122 u123 u124 u125 u126 u127 u128 u129 u130 u131 u132 u133 u134 u135 u136 u137 u138 u139 u140 u141 u142 u143 u144 u145 u146 u147 u148 u149 u150 u151 u152 u153 u154 u155 u156 u157 u158 u159 u160 u161 u162 u163 u164 u165 u166 u167 u168 u169 u170 u171 u172 u173 u174 u175 u176 u177 u178 u179 u180 u181 u182 u183 u184 u185 u186 u187 u188 u189 u190 u191 u192 u193 u194 u195 u196 u197 u198 u199 u200 u201 u202 u203 u204 u205 u206 u207 u208 u209 u210 u211 u212 u213 u214 u215 u216 u217 u218 u219 u220 u221 u222 u223 u224 u225 u226 u227 u228 u229 u230 u231 u232 u233 u234 u235 u236 u237 u238 u239 u240 u241 u242 u243 u244 u245 u246 u247 u248 u249 u250 u251 u252 u253 u254 u255 u256 u257 u258 u259 u260 u261 u262 u263 u264 u265 u266 u267 u268 u269 u270 u271 u272 u273 u274 u275 u276 u277 u278 u279 u280 u281 u282 u283 u284 u285 u286 u287 u288 u289 u290 u291 u292 u293 u294 u295 u296 u297 u298 u299 u300 u301 u302 u303 u304 u305 u306 u307 u308 u309 u310 u311 u312 u313 u314 u315 u316 u317 u318 u319 u320 u321 u322 u323 u324 u325 u326 u327 u328 u329 u330 u331 u332 u333 u334 u335 u336 u337 u338 u339 u340 u341 u342 u343 u344 u345 u346 u347 u348 u349 u350 u351 u352 u353 u354 u355 u356 u357 u358 u359 u360 u361 u362 u363 u364 u365 u366 u367 u368 u369 u370 u371 u372 u373 u374 u375 : Value)
    (hB : Batch w rB lB sB rwB txB m nC c slot pr ps nulls bw bt xc V S N) (hW : Want w wiB wsB wnB m V S N) (han : N.any id = an) (hoc : other ≠ c)
    (hR : Blk w rB [.pointer (some ⟨lB, 0, none⟩), .slice (some ⟨rwB, 0, none⟩) m m, .slice (some ⟨txB, 0, none⟩) m m, room, .slice none 0 0] 67)
    (hT : w.cell? ⟨tB, c, none⟩ = some (.bool xc)) (ht : tB < rB) (hr1 : rB < wiB) (hr2 : rB < wsB) (hr3 : rB < wnB) (hr0 : w0.heap.size ≤ rB) (hbel : Below w0.heap.size w0 w)
    (K : Act → World → Prop) (hK : ∀ a w', Code.wp Try.prog (restOf 86 Try.f7) (bodyPost Try.prog Try.f7 (RetTrue w0)) a w' → K a w') :
    Code.wp Try.prog (headOf 86 Try.f7) (Exit.then K (bodyPost Try.prog Try.f7 (RetTrue w0))) ⟨#[.slice (some ⟨tB, 0, none⟩) nC nC, u1, u2, u3, u4, .int .i64 c, .int .i64 other, u7, u8, u9, u10, u11, u12, u13, u14, u15, u16, u17, u18, u19, u20, u21, u22, u23, u24, u25, u26, u27, u28, u29, u30, u31, .pointer (some ⟨rB, 0, none⟩), .slice (some ⟨wiB, 0, none⟩) m m, .slice (some ⟨wsB, 0, none⟩) m m, .slice (some ⟨wnB, 0, none⟩) m m, .bool an, u37, u38, .slice j1 k1 d1, .slice j2 k2 d2, .slice j3 k3 d3, u42, u43, u44, u45, u46, u47, u48, u49, u50, u51, u52, u53, u54, u55, u56, u57, u58, u59, u60, u61, u62, u63, u64, u65, u66, u67, u68, u69, u70, u71, u72, u73, u74, u75, u76, u77, u78, u79, u80, u81, u82, u83, u84, u85, u86, u87, u88, u89, u90, u91, u92, u93, u94, u95, u96, u97, u98, u99, u100, u101, u102, u103, u104, u105, u106, u107, u108, u109, u110, u111, u112, u113, u114, u115, u116, u117, u118, u119, u120, u121, u122, u123, u124, u125, u126, u127, u128, u129, u130, u131, u132, u133, u134, u135, u136, u137, u138, u139, u140, u141, u142, u143, u144, u145, u146, u147, u148, u149, u150, u151, u152, u153, u154, u155, u156, u157, u158, u159, u160, u161, u162, u163, u164, u165, u166, u167, u168, u169, u170, u171, u172, u173, u174, u175, u176, u177, u178, u179, u180, u181, u182, u183, u184, u185, u186, u187, u188, u189, u190, u191, u192, u193, u194, u195, u196, u197, u198, u199, u200, u201, u202, u203, u204, u205, u206, u207, u208, u209, u210, u211, u212, u213, u214, u215, u216, u217, u218, u219, u220, u221, u222, u223, u224, u225, u226, u227, u228, u229, u230, u231, u232, u233, u234, u235, u236, u237, u238, u239, u240, u241, u242, u243, u244, u245, u246, u247, u248, u249, u250, u251, u252, u253, u254, u255, u256, u257, u258, u259, u260, u261, u262, u263, u264, u265, u266, u267, u268, u269, u270, u271, u272, u273, u274, u275, u276, u277, u278, u279, u280, u281, u282, u283, u284, u285, u286, u287, u288, u289, u290, u291, u292, u293, u294, u295, u296, u297, u298, u299, u300, u301, u302, u303, u304, u305, u306, u307, u308, u309, u310, u311, u312, u313, u314, u315, u316, u317, u318, u319, u320, u321, u322, u323, u324, u325, u326, u327, u328, u329, u330, u331, u332, u333, u334, u335, u336, u337, u338, u339, u340, u341, u342, u343, u344, u345, u346, u347, u348, u349, u350, u351, u352, u353, u354, u355, u356, u357, u358, u359, u360, u361, u362, u363, u364, u365, u366, u367, u368, u369, u370, u371, u372, u373, u374, u375], []⟩ w := by
  conv at hK => enter [a, w', 1, 2]; whnf
  conv => arg 2; whnf
  have hm := hB.rw_.bm
  have hcn : ((c : Nat) : Int) < (nC : Int) := by have := hB.rw_.bc; omega
  have hrl := hR.lt
  have lwi := hW.bi.lt
  have lws := hW.bs.lt
  have lwn := hW.bn.lt
  have HB := hide hB
  have HW := hide hW
  have HA := hide han
  clear hB hW han
  go_wp2_with fail
  refine (addFound31 rB w.heap.size 0 _ _ _ _ _ [] _ _ _ _ _ _ _ _ _ other _ w hR (World.ownsRow_nil _ _ _ _) (by omega) (Nat.le_refl _) hrl).mono ?_
  rintro e w1 ⟨rfl, g1, cap1, hR1, hown1, hat1, hK1⟩
  simp only [Value.ownBlock, Option.toList] at hK1 hat1
  have hg1 : w.heap.size ≤ g1 := by rcases hat1 with h | h; · cases h
                                    · exact h
  have hb1 : Below rB w w1 := Kp.below (Below.refl _ _) hK1 (by omega) (by simp)
  have hT1 := low_cell hb1 ht hT
  have hB1 := (unhide HB).upd hb1 (hR1.cell rfl) (hR1.cell rfl) (hR1.cell rfl)
  have hW1 := (unhide HW).kp hK1 (by simp; omega) (by simp; omega) (by simp; omega)
  have hcan1 : Can w1 rB c m xc V S N := hB1.can g1 cap1 (some ⟨g1, 0, none⟩) [other] (by simp) (hR1.cell rfl) (fun i x hx => by
    match i, hx with
    | 0, hx => simp at hx; subst hx; exact ⟨rfl, by rw [hown1.cellAt _ (by simp)]; rfl⟩) (by simp [foundAt, hoc])
  have hbel1 : Below w0.heap.size w0 w1 := hbel.trans (hb1.mono hr0)
  have hs1 := hK1.size
  have Hown1 := hide hown1
  have HR1 := hide hR1
  have HBel1 := hide hbel1
  have HC1 := hide hcan1
  have HW1 := hide hW1
  clear hT hbel hK1 hat1 hown1 hR hR1 hb1 hbel1 hcan1 hB1 hW1 HB HW
  simp only []
  go_wp2_with fail
  refine (agree30 rB c m wiB wsB wnB xc V S N an w1 hm (unhide HC1) (unhide HW1) (unhide HA)).mono ?_
  rintro e w2 ⟨rfl, hb2⟩
  have hT2 := low_cell hb2 (a := ⟨tB, c, none⟩) (show tB < w1.heap.size by omega) hT1
  have hW2 := (unhide HW1).kp (Below.kp hb2) (by simp) (by simp) (by simp)
  have hs2 := hb2.size
  have Hb2 := hide hb2
  have HW2 := hide hW2
  clear hT1 hb2 hW2 HC1 HW1
  simp only []
  go_wp2_with fail
  refine (clone27 (some ⟨wiB, 0, none⟩) m m (V.map (Value.int .i64)) w2 (by omega) (by simp [(unhide HW2).li]) (unhide HW2).bi.src (by simp) (ints_one _ _)).mono ?_
  rintro e w3 ⟨p3, rfl, hp3, hK3⟩
  have hT3 : w3.cell? ⟨tB, c, none⟩ = some (.bool xc) := old_cell hK3.toBelow hT2
  have hW3 := (unhide HW2).kp hK3 (by simp) (by simp) (by simp)
  have hs3 := hK3.size
  rw [show (V.map (Value.int .i64)).length = m by simp [hW3.li]] at hp3 ⊢
  have Hp3 := hide hp3
  have HK3 := hide hK3
  have HW3 := hide hW3
  clear hp3 hK3 hW3 HW2 hT2
  simp only []
  go_wp2_with fail
  refine (clone28 (some ⟨wsB, 0, none⟩) m m (S.map Value.string) w3 (by omega) (by simp [(unhide HW3).ls]) (unhide HW3).bs.src (by simp) (strs_one _)).mono ?_
  rintro e w4 ⟨p4, rfl, hp4, hK4⟩
  have hT4 : w4.cell? ⟨tB, c, none⟩ = some (.bool xc) := old_cell hK4.toBelow hT3
  have hW4 := (unhide HW3).kp hK4 (by simp) (by simp) (by simp)
  have hs4 := hK4.size
  rw [show (S.map Value.string).length = m by simp [hW4.ls]] at hp4 ⊢
  have Hp4 := hide hp4
  have HK4 := hide hK4
  have HW4 := hide hW4
  clear hp4 hK4 hW4 HW3 hT3
  simp only []
  go_wp2_with fail
  refine (clone26 (some ⟨wnB, 0, none⟩) m m (N.map Value.bool) w4 (by omega) (by simp [(unhide HW4).ln]) (unhide HW4).bn.src (by simp) (bools_one _)).mono ?_
  rintro e w5 ⟨p5, rfl, hp5, hK5⟩
  have hT5 : w5.cell? ⟨tB, c, none⟩ = some (.bool xc) := old_cell hK5.toBelow hT4
  have hW5 := (unhide HW4).kp hK5 (by simp) (by simp) (by simp)
  have hs5 := hK5.size
  rw [show (N.map Value.bool).length = m by simp [hW5.ln]] at hp5 ⊢
  have hb15 : Below w1.heap.size w1 w5 := (((unhide Hb2).trans ((unhide HK3).toBelow.mono hs2)).trans ((unhide HK4).toBelow.mono (by omega))).trans (hK5.toBelow.mono (by omega))
  have Hown5 := hide (ownsRow_below (unhide Hown1) hb15)
  have hR5 : Blk w5 rB [.pointer (some ⟨lB, 0, none⟩), .slice (some ⟨rwB, 0, none⟩) m m, .slice (some ⟨txB, 0, none⟩) m m, room, .slice (some ⟨g1, 0, none⟩) (0 + 1) cap1] 67 := (Below.kp hb15).blk (unhide HR1) (by simp)
  have HR5 := hide hR5
  have Hp5 := hide hp5
  have HK5 := hide hK5
  have HW5 := hide hW5
  have Hb15 := hide hb15
  clear hp5 hK5 hW5 HW4 hT4 hb15 hR5
  simp only []
  go_wp2_with fail
  refine (addFound31 rB w.heap.size (0 + 1) _ _ _ _ _ _ _ _ _ _ _ _ _ _ _ c an w5 (unhide HR5) (unhide Hown5) (by omega) (by omega) hrl).mono ?_
  rintro e w6 ⟨rfl, g2, cap2, hR6, hown6, hat6, hK6⟩
  simp only [Value.ownBlock, Option.toList] at hK6 hat6
  have hg1lt : g1 < w1.heap.size := ((unhide Hown1).lt g1 rfl).2
  have hb6 : Below rB w5 w6 := Kp.below (Below.refl _ _) hK6 (by omega) (by simp; omega)
  have hT6 := low_cell hb6 ht hT5
  have hW6 := (unhide HW5).kp hK6 (by simp; omega) (by simp; omega) (by simp; omega)
  have hbel6 : Below w0.heap.size w0 w6 := ((unhide HBel1).trans ((unhide Hb15).mono (by have := (unhide HBel1).size; omega))).trans (hb6.mono hr0)
  have hcell : ∀ j, j < (0 + 1 + 1) * 5 → w6.cell? ⟨g2, j, none⟩ = _ := fun j hj => hown6.cellAt j hj
  have src3 : Src w6 p3 (V.map (Value.int .i64)) := fun h0 => by
    obtain ⟨rfl, hb⟩ := (unhide Hp3) (by simpa [(unhide HW5).li] using h0)
    have b5 := (unhide HK5).blk ((unhide HK4).blk hb (by simp)) (by simp)
    exact (hK6.blk b5 (by simp; omega)).src h0
  have src4 : Src w6 p4 (S.map Value.string) := fun h0 => by
    obtain ⟨rfl, hb⟩ := (unhide Hp4) (by simpa [(unhide HW5).ls] using h0)
    exact (hK6.blk ((unhide HK5).blk hb (by simp)) (by simp; omega)).src h0
  have src5 : Src w6 p5 (N.map Value.bool) := fun h0 => by
    obtain ⟨rfl, hb⟩ := (unhide Hp5) (by simpa [(unhide HW5).ln] using h0)
    exact (hK6.blk hb (by simp; omega)).src h0
  have hD : FD w6 g2 5 m p3 p4 p5 V S N := {
    ci := (hcell 6 (by omega)).trans rfl
    cs := (hcell 7 (by omega)).trans rfl
    cn := (hcell 8 (by omega)).trans rfl
    ch := by rw [unhide HA]; exact (hcell 9 (by omega)).trans rfl
    si := src3
    ss := src4
    sn := src5
    li := hW6.li
    ls := hW6.ls
    ln := hW6.ln }
  have hcan6 : Can w6 rB c m xc V S N := can_found rB c m g2 cap2 5 xc V S N (some ⟨g2, 0, none⟩) p3 p4 p5 [other, c] (by simp) (hR6.cell rfl) (fun i x hx => by
    match i, hx with
    | 0, hx => simp at hx; subst hx; exact ⟨rfl, (hcell 0 (by omega)).trans rfl⟩
    | 1, hx => simp at hx; subst hx; exact ⟨rfl, (hcell 5 (by omega)).trans rfl⟩) (by simp [foundAt, hoc]) hD
  have HC6 := hide hcan6
  have HW6 := hide hW6
  have HBel6 := hide hbel6
  clear hT5 hcell src3 src4 src5 hD hcan6 hW6 hbel6 hown6 hR6 hK6 hat6 hb6 HR5 Hown5 HW5 HK3 HK4 HK5 Hp3 Hp4 Hp5
  simp only []
  go_wp2_with fail
  refine (agree30 rB c m wiB wsB wnB xc V S N an w6 hm (unhide HC6) (unhide HW6) (unhide HA)).mono ?_
  rintro e w7 ⟨rfl, hb7⟩
  simp only []
  go_wp2
  go_ret
  exact ⟨rfl, (unhide HBel6).trans (hb7.mono (unhide HBel6).size)⟩

end Go.Proofs.Qxb6001672a
