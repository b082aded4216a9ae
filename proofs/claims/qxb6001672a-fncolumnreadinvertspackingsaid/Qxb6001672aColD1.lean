/-
  FnColumnReadInvertsPacking (7): the first comparison, the junk.
-/
import Derived.Test.Qxb6001672aColD2
set_option linter.unusedSimpArgs false
set_option linter.unusedVariables false
namespace Go.Proofs.Qxb6001672a
open Go.RowKit

set_option maxRecDepth 1000000 in
set_option maxHeartbeats 2000000 in
theorem colD1 (tB rB lB sB rwB txB wiB wsB wnB m nC c slot pr ps nulls : Nat) (bw bt : Nat → Nat) (xc an : Bool) (other : Int) (V : List Int) (S : List ByteArray) (N : List Bool) (room : Value) (w0 w : World) (u1 u2 u3 u7 u8 u9 u10 u11 u12 u13 u14 u15 u16 u17 u18 u19 u20 u21 u22 u23 u24 u25 u26 u27 u28 u29 u30 u31 u37 u38 u39 u40 u41 u42 u43 u44 u45 u46 u47 u48 u49 u50 u51 u52 u53 u54 u55 u56 u57 u58 u59 u60 u61 u62 u63 u64 u65 u66 u67 u68 u69 u70 u71 u72 u73 u74 u75 u76 u77 u78 u79 u80 u81 u82 u83 u84 u85 u86 u87 u88 u89 u90 u91 u92 u93 u94 u95 u96 u97 u98 u99 u100 u101 u102 u103 u104 u105 u106 u107 u108 u109 u110 u111 u112 u113 u114 u115 u116 u117 u118 u119 u120 u121 u122 u123 u124 u125 u126 u127 u128 u129 u130 u131 u132 u133 u134 u135 u136 u137 u138 u139 u140 u141 u142 u143 u144 u145 u146 u147 u148 u149 u150 u151 u152 u153 u154 u155 u156 u157 u158 u159 u160 u161 u162 u163 u164 u165 u166 u167 u168 u169 u170 u171 u172 u173 u174 u175 u176 u177 u178 u179 u180 u181 u182 u183 u184 u185 u186 u187 u188 u189 u190 u191 u192 u193 u194 u195 u196 u197 u198 u199 u200 u201 u202 u203 u204 u205 u206 u207 u208 u209 u210 u211 u212 u213 u214 u215 u216 u217 u218 u219 u220 u221 u222 u223 u224 u225 u226 u227 u228 u229 u230 u231 u232 u233 u234 u235 u236 u237 u238 u239 u240 u241 u242 u243 u244 u245 u246 u247 u248 u249 u250 u251 u252 u253 u254 u255 u256 u257 u258 u259 u260 u261 u262 u263 u264 u265 u266 u267 u268 u269 u270 u271 u272 u273 u274 u275 u276 u277 u278 u279 u280 u281 u282 u283 u284 u285 u286 u287 u288 u289 u290 u291 u292 u293 u294 u295 u296 u297 u298 u299 u300 u301 u302 u303 u304 u305 u306 u307 u308 u309 u310 u311 u312 u313 u314 u315 u316 u317 u318 u319 u320 u321 u322 u323 u324 u325 u326 u327 u328 u329 u330 u331 u332 u333 u334 u335 u336 u337 u338 u339 u340 u341 u342 u343 u344 u345 u346 u347 u348 u349 u350 u351 u352 u353 u354 u355 u356 u357 u358 u359 u360 u361 u362 u363 u364 u365 u366 u367 u368 u369 u370 u371 u372 u373 u374 u375 : Value)
    (hB : Batch w rB lB sB rwB txB m nC c slot pr ps nulls bw bt xc V S N) (hW : Want w wiB wsB wnB m V S N) (han : N.any id = an) (hoc : other ≠ c)
    (hR : Blk w rB [.pointer (some ⟨lB, 0, none⟩), .slice (some ⟨rwB, 0, none⟩) m m, .slice (some ⟨txB, 0, none⟩) m m, room, .slice none 0 0] 67)
    (hT : w.cell? ⟨tB, c, none⟩ = some (.bool xc)) (ht : tB < rB) (hr1 : rB < wiB) (hr2 : rB < wsB) (hr3 : rB < wnB) (hr0 : w0.heap.size ≤ rB) (hbel : Below w0.heap.size w0 w)
    (K : Act → World → Prop) (hK : ∀ a w', Code.wp Try.prog (restOf 77 Try.f7) (bodyPost Try.prog Try.f7 (RetTrue w0)) a w' → K a w') :
    Code.wp Try.prog (headOf 77 Try.f7) (Exit.then K (bodyPost Try.prog Try.f7 (RetTrue w0))) ⟨#[.slice (some ⟨tB, 0, none⟩) nC nC, u1, u2, u3, .int .i64 m, .int .i64 c, .int .i64 other, u7, u8, u9, u10, u11, u12, u13, u14, u15, u16, u17, u18, u19, u20, u21, u22, u23, u24, u25, u26, u27, u28, u29, u30, u31, .pointer (some ⟨rB, 0, none⟩), .slice (some ⟨wiB, 0, none⟩) m m, .slice (some ⟨wsB, 0, none⟩) m m, .slice (some ⟨wnB, 0, none⟩) m m, .bool an, u37, u38, u39, u40, u41, u42, u43, u44, u45, u46, u47, u48, u49, u50, u51, u52, u53, u54, u55, u56, u57, u58, u59, u60, u61, u62, u63, u64, u65, u66, u67, u68, u69, u70, u71, u72, u73, u74, u75, u76, u77, u78, u79, u80, u81, u82, u83, u84, u85, u86, u87, u88, u89, u90, u91, u92, u93, u94, u95, u96, u97, u98, u99, u100, u101, u102, u103, u104, u105, u106, u107, u108, u109, u110, u111, u112, u113, u114, u115, u116, u117, u118, u119, u120, u121, u122, u123, u124, u125, u126, u127, u128, u129, u130, u131, u132, u133, u134, u135, u136, u137, u138, u139, u140, u141, u142, u143, u144, u145, u146, u147, u148, u149, u150, u151, u152, u153, u154, u155, u156, u157, u158, u159, u160, u161, u162, u163, u164, u165, u166, u167, u168, u169, u170, u171, u172, u173, u174, u175, u176, u177, u178, u179, u180, u181, u182, u183, u184, u185, u186, u187, u188, u189, u190, u191, u192, u193, u194, u195, u196, u197, u198, u199, u200, u201, u202, u203, u204, u205, u206, u207, u208, u209, u210, u211, u212, u213, u214, u215, u216, u217, u218, u219, u220, u221, u222, u223, u224, u225, u226, u227, u228, u229, u230, u231, u232, u233, u234, u235, u236, u237, u238, u239, u240, u241, u242, u243, u244, u245, u246, u247, u248, u249, u250, u251, u252, u253, u254, u255, u256, u257, u258, u259, u260, u261, u262, u263, u264, u265, u266, u267, u268, u269, u270, u271, u272, u273, u274, u275, u276, u277, u278, u279, u280, u281, u282, u283, u284, u285, u286, u287, u288, u289, u290, u291, u292, u293, u294, u295, u296, u297, u298, u299, u300, u301, u302, u303, u304, u305, u306, u307, u308, u309, u310, u311, u312, u313, u314, u315, u316, u317, u318, u319, u320, u321, u322, u323, u324, u325, u326, u327, u328, u329, u330, u331, u332, u333, u334, u335, u336, u337, u338, u339, u340, u341, u342, u343, u344, u345, u346, u347, u348, u349, u350, u351, u352, u353, u354, u355, u356, u357, u358, u359, u360, u361, u362, u363, u364, u365, u366, u367, u368, u369, u370, u371, u372, u373, u374, u375], []⟩ w := by
  conv at hK => enter [a, w', 1, 2]; whnf
  conv => arg 2; whnf
  have hm := hB.rw_.bm
  have hcn : ((c : Nat) : Int) < (nC : Int) := by have := hB.rw_.bc; omega
  have hrl := hR.lt
  have lwi := hW.bi.lt
  have lws := hW.bs.lt
  have lwn := hW.bn.lt
  have hmk1 := fun w => run_make_row' (P := Try.prog) 27 2 (.int .i64 0) 8 Try.underlying27 info2 rfl .i64 .i64 m (by omega) (by omega) w
  have hmk2 := fun w => run_make_row' (P := Try.prog) 48 9 (.string ByteArray.empty) 16 Try.underlying48 info9 rfl .i64 .i64 m (by omega) (by omega) w
  have hmk3 := fun w => run_make_row' (P := Try.prog) 38 4 (.bool false) 1 Try.underlying38 info4 rfl .i64 .i64 m (by omega) (by omega) w
  have HB := hide hB
  have HW := hide hW
  have HA := hide han
  have HBel := hide hbel
  have HR := hide hR
  have HT := hide hT
  clear hB hW han hbel hR hT
  go_wp2
  go_loopw [42] (fun i wr => ∃ k : Nat, k ≤ m ∧ i = .int .i64 k ∧ Kp [] w wr ∧ (∃ x1, x1.length = m ∧ Blk wr w.heap.size x1 2) ∧ (∃ x2, x2.length = m ∧ Blk wr (w.heap.size + 1) x2 9) ∧ ∃ x3, x3.length = m ∧ Blk wr (w.heap.size + 1 + 1) x3 4) (fun i _ => m - (intOf i).toNat)
  case atStart =>
    refine ⟨0, Nat.zero_le _, rfl, (((Kp.refl _ _).alloc _).alloc _).alloc _, ?_, ?_, ?_⟩
    · have b := Blk.new w (madeCells #[.int .i64 0] m) 2
      rw [made_list] at b
      exact ⟨List.replicate m (.int .i64 0), List.length_replicate, (((Kp.refl [] _).alloc _).alloc _).blk b (by simp)⟩
    · have b := Blk.new (w.alloc (.cells (madeCells #[.int .i64 0] m) 2)) (madeCells #[.string ByteArray.empty] m) 9
      rw [made_list] at b
      exact ⟨List.replicate m (.string ByteArray.empty), List.length_replicate, ((Kp.refl [] _).alloc _).blk (by simpa using b) (by simp)⟩
    · have b := Blk.new ((w.alloc (.cells (madeCells #[.int .i64 0] m) 2)).alloc (.cells (madeCells #[.string ByteArray.empty] m) 9)) (madeCells #[.bool false] m) 4
      rw [made_list] at b
      exact ⟨List.replicate m (.bool false), List.length_replicate, by simpa using b⟩
  case round =>
    obtain ⟨k, hk, rfl, hKr, ⟨x1, lx1, hx1⟩, ⟨x2, lx2, hx2⟩, ⟨x3, lx3, hx3⟩⟩ := hrel
    clear hmk1 hmk2 hmk3
    by_cases hlt : k < m
    · obtain ⟨v1, hv1⟩ := getElem?_lt_some x1 k (by omega)
      obtain ⟨v2, hv2⟩ := getElem?_lt_some x2 k (by omega)
      obtain ⟨v3, hv3⟩ := getElem?_lt_some x3 k (by omega)
      have c1 := hx1.cell hv1
      have c2 := hx2.cell hv2
      have c3 := hx3.cell hv3
      have f1 := hx1.frozen k
      have f2 := hx2.frozen k
      have f3 := hx3.frozen k
      have ilt : (k : Int) < (m : Int) := by omega
      have n1 : w.heap.size ≠ w.heap.size + 1 := by omega
      have n2 : w.heap.size ≠ w.heap.size + 1 + 1 := by omega
      have n3 : w.heap.size + 1 ≠ w.heap.size + 1 + 1 := by omega
      have hx1' := hide hx1
      have hx2' := hide hx2
      have hx3' := hide hx3
      have hK' := hide hKr
      clear hx1 hx2 hx3 hKr hv1 hv2 hv3
      go_wp2
      go_roundw
      case rel =>
        refine ⟨k + 1, by omega, by go_num, (((unhide hK').setCell (.inr (Nat.le_refl _)) _).setCell (.inr (Nat.le_succ _)) _).setCell (.inr (by simp; omega)) _, ?_, ?_, ?_⟩
        · exact ⟨_, by simp [lx1], ((Kp.refl [w.heap.size + 1, w.heap.size + 1 + 1] _).setCell (.inl (by simp)) _ |>.setCell (.inl (by simp)) _).blk ((unhide hx1').set k _) (by simp <;> omega)⟩
        · refine ⟨_, ?_, ((Kp.refl [w.heap.size + 1 + 1] _).setCell (.inl (by simp)) _).blk ((((Kp.refl [w.heap.size] wr).setCell (p := ⟨w.heap.size, k, none⟩) (.inl (by simp)) _).blk (unhide hx2') (by simp <;> omega)).set k _) (by simp <;> omega)⟩
          simp [lx2]
        · refine ⟨_, ?_, (((Kp.refl [w.heap.size, w.heap.size + 1] wr).setCell (p := ⟨w.heap.size, k, none⟩) (.inl (by simp)) _ |>.setCell (p := ⟨w.heap.size + 1, k, none⟩) (.inl (by simp)) _).blk (unhide hx3') (by simp <;> omega)).set k _⟩
          simp [lx3]
      case measure => simp [intOf]; omega
    · clear hx1 hx2 hx3
      have hb2 : Below w.heap.size w wr := hKr.toBelow
      have hR2 := (Below.kp hb2).blk (unhide HR) (by simp)
      have hB2 := (unhide HB).upd (hb2.mono (by omega)) (hR2.cell rfl) (hR2.cell rfl) (hR2.cell rfl)
      have hW2 := (unhide HW).kp (Below.kp hb2) (by simp) (by simp) (by simp)
      have hT2 := old_cell hb2 (unhide HT)
      have hbel2 := (unhide HBel).trans (hb2.mono (by omega))
      have A1 := hide hR2
      have A2 := hide hB2
      have A3 := hide hW2
      have A4 := hide hT2
      have A5 := hide hbel2
      clear hR2 hB2 hW2 hT2 hbel2 hb2 hKr HT HW HB HR
      go_upto_region 86 with fail
      refine colD2 tB rB lB sB rwB txB wiB wsB wnB m nC c slot pr ps nulls bw bt xc an other V S N _ _ _ _ _ _ _ _ _ room w0 wr _ _ _ _ _ _ _ _ _ _ _ _ _ _ _ _ _ _ _ _ _ _ _ _ _ _ _ _ _ _ _ _ _ _ _ _ _ _ _ _ _ _ _ _ _ _ _ _ _ _ _ _ _ _ _ _ _ _ _ _ _ _ _ _ _ _ _ _ _ _ _ _ _ _ _ _ _ _ _ _ _ _ _ _ _ _ _ _ _ _ _ _ _ _ _ _ _ _ _ _ _ _ _ _ _ _ _ _ _ _ _ _ _ _ _ _ _ _ _ _ _ _ _ _ _ _ _ _ _ _ _ _ _ _ _ _ _ _ _ _ _ _ _ _ _ _ _ _ _ _ _ _ _ _ _ _ _ _ _ _ _ _ _ _ _ _ _ _ _ _ _ _ _ _ _ _ _ _ _ _ _ _ _ _ _ _ _ _ _ _ _ _ _ _ _ _ _ _ _ _ _ _ _ _ _ _ _ _ _ _ _ _ _ _ _ _ _ _ _ _ _ _ _ _ _ _ _ _ _ _ _ _ _ _ _ _ _ _ _ _ _ _ _ _ _ _ _ _ _ _ _ _ _ _ _ _ _ _ _ _ _ _ _ _ _ _ _ _ _ _ _ _ _ _ _ _ _ _ _ _ _ _ _ _ _ _ _ _ _ _ _ _ _ _ _ _ _ _ _ _ _ _ _ _ _ _ _ _ _ _ _ _ _ _ _ _ _ _ _ _ _ _ _ _ _ _ _ _ _ _ _ _ _ _ _ _ _ _ _ _ _ _ _ _ _ _ _ _ _ _ _ _ _ _ _ _ _ _ _ _ _ _ _ _ _
        (unhide A2) (unhide A3) (unhide HA) hoc (unhide A1) (unhide A4) ht hr1 hr2 hr3 hr0 (unhide A5) _ ?_
      assumption

end Go.Proofs.Qxb6001672a
