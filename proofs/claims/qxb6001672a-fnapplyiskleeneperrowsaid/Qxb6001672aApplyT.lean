/-
  logicalInts.apply (59): the whole.
-/
import Derived.Test.Qxb6001672aApplyS
set_option linter.unusedSimpArgs false
set_option linter.unusedVariables false
namespace Go.Proofs.Qxb6001672a
open Go.RowKit

set_option maxRecDepth 1000000 in
set_option maxHeartbeats 2000000 in
theorem applyF (d : Int) (m lB rB oB nB sB gsa gsb : Nat) (pa qa pb qb : Option Addr) (xa sa xb sb : List Int) (xo st : List Int) (ap bp op : Bool) (x3 x4 y3 y4 z3 z4 : Value) (w0 w : World)
    (hL : IV w lB pa qa gsa sa ap m x3 x4) (hR : IV w rB pb qb gsb sb bp m y3 y4) (hO : IV w oB (some ⟨nB, 0, none⟩) (some ⟨sB, 0, none⟩) sB st op m z3 z4) (hN : Sl w (some ⟨nB, 0, none⟩) nB (xo.map (Value.int .i64)) 2) (lo : xo.length = m)
    (hab : (ap && bp) = false)
    (hb : Below w0.heap.size w0 w) (ha0 : Src w0 pa (xa.map (Value.int .i64))) (hb0 : Src w0 pb (xb.map (Value.int .i64))) (la : xa.length = m) (lb : xb.length = m)
    (hm : m ≤ 65536) (g0 : w0.heap.size ≤ oB) (g1 : w0.heap.size ≤ nB) (g1' : w0.heap.size ≤ sB) (g2 : nB ≠ oB) (g3 : nB ≠ sB) (g4 : oB ≠ sB) (g5 : nB < w.heap.size) (g6 : sB < w.heap.size)
    (gg : 0 < m → w0.heap.size ≤ gsa ∧ w0.heap.size ≤ gsb ∧ lB ≠ gsa ∧ rB ≠ gsa ∧ lB ≠ gsb ∧ rB ≠ gsb ∧ oB ≠ gsa ∧ oB ≠ gsb ∧ gsa ≠ gsb ∧ nB ≠ gsa ∧ nB ≠ gsb ∧ sB ≠ gsa ∧ sB ≠ gsb) :
    Calls Try.prog 59 #[.agg #[.int .i8 d], .pointer (some ⟨lB, 0, none⟩), .pointer (some ⟨rB, 0, none⟩), .pointer (some ⟨oB, 0, none⟩)] w (ApOut w d m oB nB sB gsa gsb xa (eff ap sa) xb (eff bp sb) ap bp z3 z4) := by
  have K0 : ∀ (t : TypeId) n, Kp [] w ((w.alloc (.cells #[.int .i8 d] t)).drewN n) := fun t n => ((Kp.refl _ _).alloc _).drewN n
  have HL : Hid (∀ t n, IV ((w.alloc (.cells #[.int .i8 d] t)).drewN n) lB pa qa gsa sa ap m x3 x4) := fun t n => hL.kp (K0 t n) (by simp) (by simp)
  have HR : Hid (∀ t n, IV ((w.alloc (.cells #[.int .i8 d] t)).drewN n) rB pb qb gsb sb bp m y3 y4) := fun t n => hR.kp (K0 t n) (by simp) (by simp)
  have HO : Hid (∀ t n, IV ((w.alloc (.cells #[.int .i8 d] t)).drewN n) oB (some ⟨nB, 0, none⟩) (some ⟨sB, 0, none⟩) sB st op m z3 z4) := fun t n => hO.kp (K0 t n) (by simp) (by simp)
  have HN : Hid (∀ t n, Sl ((w.alloc (.cells #[.int .i8 d] t)).drewN n) (some ⟨nB, 0, none⟩) nB (xo.map (Value.int .i64)) 2) := fun t n => hN.kp (K0 t n) (by simp)
  have HB : Hid (∀ t n, Below w0.heap.size w0 ((w.alloc (.cells #[.int .i8 d] t)).drewN n)) := fun t n => (K0 t n).below hb hb.size (by simp)
  have GG : Hid (0 < m → w0.heap.size ≤ gsa ∧ w0.heap.size ≤ gsb ∧ lB ≠ gsa ∧ rB ≠ gsa ∧ lB ≠ gsb ∧ rB ≠ gsb ∧ oB ≠ gsa ∧ oB ≠ gsb ∧ gsa ≠ gsb ∧ nB ≠ gsa ∧ nB ≠ gsb ∧ sB ≠ gsa ∧ sB ≠ gsb ∧ w.heap.size ≠ gsa ∧ w.heap.size ≠ gsb) := fun h => by
    obtain ⟨a1, a2, a3, a4, a5, a6, a7, a8, a9, a10, a11, a12, a13⟩ := gg h
    have r1 := (hL.bs (by simp [hL.ls]; omega)).2.lt
    have r2 := (hR.bs (by simp [hR.ls]; omega)).2.lt
    exact ⟨a1, a2, a3, a4, a5, a6, a7, a8, a9, a10, a11, a12, a13, by omega, by omega⟩
  have o0 : w.cell? ⟨oB, 0, none⟩ = some (.slice (some ⟨nB, 0, none⟩) m m) := hO.bv.cell rfl
  have o1 : w.cell? ⟨oB, 1, none⟩ = some (.slice (some ⟨sB, 0, none⟩) m m) := hO.bv.cell rfl
  have l0 : w.cell? ⟨lB, 0, none⟩ = some (.slice pa m m) := hL.bv.cell rfl
  have r0 : w.cell? ⟨rB, 0, none⟩ = some (.slice pb m m) := hR.bv.cell rfl
  have l2 : w.cell? ⟨lB, 2, none⟩ = some (.bool ap) := hL.bv.cell rfl
  have r2 : w.cell? ⟨rB, 2, none⟩ = some (.bool bp) := hR.bv.cell rfl
  have q1 := hO.bv.lt
  have q2 := hL.bv.lt
  have q3 := hR.bv.lt
  have KK : Hid (∀ (t : TypeId) n, Kp [] w ((w.alloc (.cells #[.int .i8 d] t)).drewN n)) := K0
  have k1 : w.heap.size ≠ nB := by omega
  have k2 : w.heap.size ≠ sB := by omega
  have HC : Hid (∀ t n, ((w.alloc (.cells #[.int .i8 d] t)).drewN n).cell? ⟨w.heap.size, 0, none⟩ = some (.int .i8 d)) := fun t n => by
    exact (Blk.new w #[.int .i8 d] t).cell rfl
  clear K0 gg hL hR hO hN hb
  cases ap
  · go_enter Try.func59, Try.ntmps59
    go_wp2
    go_quiet (fail)
    go_wp2
    go_quiet (fail)
    go_upto_region 4 with fail
    refine applyS d m lB rB oB nB sB gsa gsb w.heap.size pa qa pb qb xa sa xb sb xo st false bp op x3 x4 y3 y4 z3 z4 w0 w _ _ _ _ _ _ _ _ _ _ _ _ _ _ _ _ _ _ _ _ _ _ _ _ _ _ _ _ _ _ _ _ _ _ _ _ _ _ _ _ _ _ _ _ _ _ _ _ _ _ _ _ _ _ _ _ _ _ _ _ _ _ _ _ _ _ _ _ _ _ _ _ _ _ _ _ _ _ _ _ _ _ _ _ _ _ _ _ _ _ _ _ _ _ _ _ _ _ _ _ _ _ _ _ _ _ _ _ _ _ _ _ _ _ _ _ _ _ _ _ _ _ _ _ _ _ _ _ _ _ _ _ _ _ _ _ _ _ _ _ _ _ _ _ _ _ _ _ _ _ _ _ _ _ _ _ _ _ _ _ _ _ _ _ _ _ _ _ _ _ _ _ _ _ (HL.out _ _) (HR.out _ _) (HO.out _ _) (HN.out _ _) lo (HC.out _ _) hab (KK.out _ _) (HB.out _ _) ha0 hb0 la lb hm g0 g1 g1' g2 g3 g4 k1 k2 GG.out _ ?_
    assumption
  · cases bp
    · go_enter Try.func59, Try.ntmps59
      go_wp2
      go_quiet (fail)
      go_wp2
      go_quiet (fail)
      go_upto_region 4 with fail
      refine applyS d m lB rB oB nB sB gsa gsb w.heap.size pa qa pb qb xa sa xb sb xo st true false op x3 x4 y3 y4 z3 z4 w0 w _ _ _ _ _ _ _ _ _ _ _ _ _ _ _ _ _ _ _ _ _ _ _ _ _ _ _ _ _ _ _ _ _ _ _ _ _ _ _ _ _ _ _ _ _ _ _ _ _ _ _ _ _ _ _ _ _ _ _ _ _ _ _ _ _ _ _ _ _ _ _ _ _ _ _ _ _ _ _ _ _ _ _ _ _ _ _ _ _ _ _ _ _ _ _ _ _ _ _ _ _ _ _ _ _ _ _ _ _ _ _ _ _ _ _ _ _ _ _ _ _ _ _ _ _ _ _ _ _ _ _ _ _ _ _ _ _ _ _ _ _ _ _ _ _ _ _ _ _ _ _ _ _ _ _ _ _ _ _ _ _ _ _ _ _ _ _ _ _ _ _ _ _ _ (HL.out _ _) (HR.out _ _) (HO.out _ _) (HN.out _ _) lo (HC.out _ _) hab (KK.out _ _) (HB.out _ _) ha0 hb0 la lb hm g0 g1 g1' g2 g3 g4 k1 k2 GG.out _ ?_
      assumption
    · cases hab
end Go.Proofs.Qxb6001672a
