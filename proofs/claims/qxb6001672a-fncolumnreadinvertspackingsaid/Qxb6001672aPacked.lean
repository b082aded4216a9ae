/-
  From the packed rows in memory to the batch as column c is read out of it.
-/
import Derived.Test.Qxb6001672aCan
import Derived.Test.Qxb6001672aPack
set_option linter.unusedSimpArgs false
set_option linter.unusedVariables false
namespace Go.Proofs.Qxb6001672a
open Go.RowKit

theorem fill_skip (xs : List Value) (z : Value) (k : Nat) (h : xs[k]? = some z) : fill xs z (k + 1) = fill xs z k := by
  have hk : k < xs.length := (List.getElem?_eq_some_iff.1 h).1
  rw [← fill_set xs z k z h]
  have hl : k < (fill xs z k).length := by rw [fill_len xs z k (by omega)]; exact hk
  have h2 := fill_at xs z k hk
  have h3 : (fill xs z k)[k] = z := (List.getElem?_eq_some_iff.1 h2).2
  apply List.ext_getElem?
  intro i
  by_cases hi : k = i
  · subst hi; rw [List.getElem?_set_self hl, h2]
  · rw [List.getElem?_set_ne hi]

theorem three_set {w : World} {a b c k : Nat} {x1 x2 x3 : List Value} {t1 t2 t3 : TypeId} (h1 : Blk w a x1 t1) (h2 : Blk w b x2 t2) (h3 : Blk w c x3 t3) (hab : a ≠ b) (hac : a ≠ c) (hbc : b ≠ c) (v1 v2 v3 : Value) :
    Blk (((w.setCell ⟨c, k, none⟩ v3).setCell ⟨a, k, none⟩ v1).setCell ⟨b, k, none⟩ v2) a (x1.set k v1) t1 ∧ Blk (((w.setCell ⟨c, k, none⟩ v3).setCell ⟨a, k, none⟩ v1).setCell ⟨b, k, none⟩ v2) b (x2.set k v2) t2 ∧
    Blk (((w.setCell ⟨c, k, none⟩ v3).setCell ⟨a, k, none⟩ v1).setCell ⟨b, k, none⟩ v2) c (x3.set k v3) t3 := by
  have kb : ∀ (w : World) (p : Nat) (v : Value), Kp [p] w (w.setCell ⟨p, k, none⟩ v) := fun w p v => (Kp.refl [p] w).setCell (.inl (by simp)) v
  refine ⟨?_, ?_, ?_⟩
  · exact (kb _ b v2).blk (((kb _ c v3).blk h1 (by simpa using hac)).set k v1) (by simpa using hab)
  · exact ((kb _ a v1).blk ((kb _ c v3).blk h2 (by simpa using hbc)) (by simpa using hab.symm)).set k v2
  · exact (kb _ b v2).blk ((kb _ a v1).blk (h3.set k v3) (by simpa using hac.symm)) (by simpa using hbc.symm)

/-- What column c should read: is it NULL in row i; its integers; its strings. -/
def nuAt (nu : List Bool) (nC c i : Nat) : Bool := nu.getD (i * nC + c) false
def wN (nu : List Bool) (nC c m : Nat) : List Bool := (List.range m).map (nuAt nu nC c)
def wIat (cs : List Int) (nu : List Bool) (nC c i : Nat) : Int := if nuAt nu nC c i then 0 else cs.getD (i * nC + c) 0
def wI (cs : List Int) (nu : List Bool) (nC c m : Nat) : List Int := (List.range m).map (wIat cs nu nC c)
def wSat (ss : List ByteArray) (nu : List Bool) (nC c i : Nat) : ByteArray := if nuAt nu nC c i then ByteArray.empty else ss.getD (i * nC + c) ByteArray.empty
def wS (ss : List ByteArray) (nu : List Bool) (nC c m : Nat) : List ByteArray := (List.range m).map (wSat ss nu nC c)

theorem map_range_at {α : Type} (f : Nat → α) (m i : Nat) (h : i < m) : ((List.range m).map f)[i]? = some (f i) := by simp [h]

/-- The packed rows. -/
structure Packed (w : World) (rwB txB m pr ps nC c nI : Nat) (bw bt : Nat → Nat) (tx : List Bool) (cs : List Int) (ss : List ByteArray) (nu : List Bool) : Prop where
  rows : ∀ i, i < m → w.cell? ⟨rwB, i, none⟩ = some (.slice (some ⟨bw i, 0, none⟩) pr pr) ∧ ∃ W : List Int, Blk w (bw i) (W.map (Value.int .u64)) 54 ∧ WordsOk tx nI pr c (nuAt nu nC c i) (cs.getD (i * nC + c) 0) nC W
  txts : ∀ i, i < m → w.cell? ⟨txB, i, none⟩ = some (.slice (some ⟨bt i, 0, none⟩) ps ps) ∧ ∃ T : List ByteArray, Blk w (bt i) (T.map Value.string) 9 ∧ StrsOk tx ps c (nuAt nu nC c i) (ss.getD (i * nC + c) ByteArray.empty) nC T

theorem Packed.below {w w' : World} {rwB txB m pr ps nC c nI : Nat} {bw bt : Nat → Nat} {tx : List Bool} {cs : List Int} {ss : List ByteArray} {nu : List Bool} (h : Packed w rwB txB m pr ps nC c nI bw bt tx cs ss nu) (hb : Below w.heap.size w w') :
    Packed w' rwB txB m pr ps nC c nI bw bt tx cs ss nu where
  rows := fun i hi => by obtain ⟨h1, W, h2, h3⟩ := h.rows i hi; exact ⟨old_cell hb h1, W, (Below.kp hb).blk h2 (by simp), h3⟩
  txts := fun i hi => by obtain ⟨h1, W, h2, h3⟩ := h.txts i hi; exact ⟨old_cell hb h1, W, (Below.kp hb).blk h2 (by simp), h3⟩

theorem wrap_back (z : Int) (h1 : -9223372036854775808 ≤ z) (h2 : z ≤ 9223372036854775807) : wrap64 (IntKind.u64.wrap z) = z := by
  rw [IntKind.wrap_u64]
  unfold wrap64
  omega

theorem batch_of {w : World} (rB lB sB rwB txB m nC c nI pr ps : Nat) (bw bt : Nat → Nat) (tx : List Bool) (cs : List Int) (ss : List ByteArray) (nu : List Bool) (xc : Bool)
    (hP : Packed w rwB txB m pr ps nC c nI bw bt tx cs ss nu) (hxc : tx[c]? = some xc) (hlen : tx.length = nC) (hnI : nI = cnt tx false nC) (hps : ps = cnt tx true nC) (hpr : pr = nI + (nC + 63) / 64)
    (hm : m ≤ 64) (hc : c < nC) (hnC : nC ≤ 130) (hcs : ∀ z ∈ cs, -9223372036854775808 ≤ z ∧ z ≤ 9223372036854775807)
    (r0 : w.cell? ⟨rB, 0, none⟩ = some (.pointer (some ⟨lB, 0, none⟩))) (r1 : w.cell? ⟨rB, 1, none⟩ = some (.slice (some ⟨rwB, 0, none⟩) m m)) (r2 : w.cell? ⟨rB, 2, none⟩ = some (.slice (some ⟨txB, 0, none⟩) m m))
    (l0 : w.cell? ⟨lB, 0, none⟩ = some (.slice (some ⟨sB, 0, none⟩) nC nC)) (l3 : w.cell? ⟨lB, 3, none⟩ = some (.int .i64 nI)) (s : w.cell? ⟨sB, c, none⟩ = some (.int .i64 (slotOf tx c)))
    (o1 : lB < rB) (o2 : sB < rB) (o3 : rwB < rB) (o4 : txB < rB) (o5 : ∀ i, i < m → bw i < rB) (o6 : ∀ i, i < m → bt i < rB) :
    Batch w rB lB sB rwB txB m nC c (slotOf tx c) pr ps nI bw bt xc (wI cs nu nC c m) (wS ss nu nC c m) (wN nu nC c m) := by
  have hle : nI ≤ 130 := by have := cnt_le tx false nC; omega
  have hsl : slotOf tx c < cnt tx xc nC := slotOf_lt tx c xc hxc nC hc
  have hle2 := cnt_le tx xc nC
  refine ⟨⟨r0, r1, l0, l3, s, fun i hi => (hP.rows i hi).1, ?_, hm, hc, hnC, hle, by omega, by simp [wN], by omega⟩, ?_, ?_, o1, o2, o3, o4, o5, o6, r2⟩
  · intro i hi
    obtain ⟨_, W, hW, hok⟩ := hP.rows i hi
    obtain ⟨x, hx, hWx⟩ := hok.nul (nI + c / 64) (by omega) (by omega)
    refine ⟨x, hx, hW.cell (by simp [hWx]), ?_⟩
    have hb := hok.bit x hWx
    rw [hb]
    simp [wN, hi, hc]
  · rintro rfl
    refine ⟨?_, by simp [wI], by omega⟩
    intro i hi
    obtain ⟨_, W, hW, hok⟩ := hP.rows i hi
    have hv := hok.val hxc
    refine ⟨_, hW.cell (by rw [List.getElem?_map, hv]; rfl), ?_⟩
    rw [wI, map_range_at _ _ _ hi]
    unfold wIat
    cases hn : nuAt nu nC c i
    · simp only [hc, true_and, if_true, Bool.false_eq_true, if_false]
      have hz : -9223372036854775808 ≤ cs.getD (i * nC + c) 0 ∧ cs.getD (i * nC + c) 0 ≤ 9223372036854775807 := by
        rw [List.getD_eq_getElem?_getD]
        cases hg : cs[i * nC + c]? with
        | none => simp
        | some z => simpa using hcs z (List.mem_of_getElem? hg)
      rw [wrap_back _ hz.1 hz.2]
    · simp [wrap64]
  · rintro rfl
    refine ⟨r2, fun i hi => (hP.txts i hi).1, ?_, by simp [wS], by omega⟩
    intro i hi
    obtain ⟨_, T, hT, hok⟩ := hP.txts i hi
    have hv := hok.val hxc
    refine ⟨_, hT.cell (by rw [List.getElem?_map, hv]; rfl), ?_⟩
    rw [wS, map_range_at _ _ _ hi]
    unfold wSat
    cases hn : nuAt nu nC c i
    · simp [hc]
    · simp

end Go.Proofs.Qxb6001672a
