/-
  ZZApply (41).
-/
import Derived.Test.Qxb6001672aApplyT
import Derived.Test.Qxb6001672aCopies
set_option linter.unusedSimpArgs false
set_option linter.unusedVariables false
namespace Go.Proofs.Qxb6001672a
open Go.RowKit

theorem four_alloc (w : World) (A B C D : Array Value) (a b c d : TypeId) : Blk ((((w.alloc (.cells A a)).alloc (.cells B b)).alloc (.cells C c)).alloc (.cells D d)).drew w.heap.size A.toList a ∧
    Blk ((((w.alloc (.cells A a)).alloc (.cells B b)).alloc (.cells C c)).alloc (.cells D d)).drew (w.heap.size + 1) B.toList b ∧
    Blk ((((w.alloc (.cells A a)).alloc (.cells B b)).alloc (.cells C c)).alloc (.cells D d)).drew (w.heap.size + 1 + 1) C.toList c ∧
    Blk ((((w.alloc (.cells A a)).alloc (.cells B b)).alloc (.cells C c)).alloc (.cells D d)).drew (w.heap.size + 1 + 1 + 1) D.toList d ∧
    ((((w.alloc (.cells A a)).alloc (.cells B b)).alloc (.cells C c)).alloc (.cells D d)).drew.heap.size = w.heap.size + 1 + 1 + 1 + 1 ∧
    Kp [] w ((((w.alloc (.cells A a)).alloc (.cells B b)).alloc (.cells C c)).alloc (.cells D d)).drew := by
  obtain ⟨h1, h2, _⟩ := two_alloc w A B a b
  have h3 := two_alloc ((w.alloc (.cells A a)).alloc (.cells B b)) C D c d
  have k := ((Kp.refl [] ((w.alloc (.cells A a)).alloc (.cells B b))).alloc (.cells C c)).alloc (.cells D d)
  have hz : ((w.alloc (.cells A a)).alloc (.cells B b)).heap.size = w.heap.size + 1 + 1 := by simp
  rw [hz] at h3
  exact ⟨k.blk h1 (by simp), k.blk h2 (by simp), h3.1, h3.2.1, by simp, ((((((Kp.refl [] w).alloc _).alloc _).alloc _).alloc _).drew)⟩

theorem apply59 (d : Int) (m lB rB oB nB sB gsa gsb : Nat) (pa qa pb qb : Option Addr) (xa sa xb sb : List Int) (xo st : List Int) (ap bp op : Bool) (x3 x4 y3 y4 z3 z4 : Value) (w0 v : World)
    (hL : IV v lB pa qa gsa sa ap m x3 x4) (hR : IV v rB pb qb gsb sb bp m y3 y4) (hO : IV v oB (some ⟨nB, 0, none⟩) (some ⟨sB, 0, none⟩) sB st op m z3 z4) (hN : Sl v (some ⟨nB, 0, none⟩) nB (xo.map (Value.int .i64)) 2) (lo : xo.length = m)
    (hb : Below w0.heap.size w0 v) (ha0 : Src w0 pa (xa.map (Value.int .i64))) (hb0 : Src w0 pb (xb.map (Value.int .i64))) (la : xa.length = m) (lb : xb.length = m)
    (ra : ∀ z ∈ xa, -9223372036854775808 ≤ z ∧ z ≤ 9223372036854775807) (rb : ∀ z ∈ xb, -9223372036854775808 ≤ z ∧ z ≤ 9223372036854775807)
    (hm : m ≤ 65536) (g0 : w0.heap.size ≤ oB) (g1 : w0.heap.size ≤ nB) (g1' : w0.heap.size ≤ sB) (g2 : nB ≠ oB) (g3 : nB ≠ sB) (g4 : oB ≠ sB) (g5 : nB < v.heap.size) (g6 : sB < v.heap.size)
    (gg : 0 < m → w0.heap.size ≤ gsa ∧ w0.heap.size ≤ gsb ∧ lB ≠ gsa ∧ rB ≠ gsa ∧ lB ≠ gsb ∧ rB ≠ gsb ∧ oB ≠ gsa ∧ oB ≠ gsb ∧ gsa ≠ gsb ∧ nB ≠ gsa ∧ nB ≠ gsb ∧ sB ≠ gsa ∧ sB ≠ gsb) :
    Calls Try.prog 59 #[.agg #[.int .i8 d], .pointer (some ⟨lB, 0, none⟩), .pointer (some ⟨rB, 0, none⟩), .pointer (some ⟨oB, 0, none⟩)] v (ApOut v d m oB nB sB gsa gsb xa (eff ap sa) xb (eff bp sb) ap bp z3 z4) := by
  cases hab : (ap && bp)
  · exact applyF d m lB rB oB nB sB gsa gsb pa qa pb qb xa sa xb sb xo st ap bp op x3 x4 y3 y4 z3 z4 w0 v hL hR hO hN lo hab hb ha0 hb0 la lb hm g0 g1 g1' g2 g3 g4 g5 g6 gg
  · simp at hab
    obtain ⟨rfl, rfl⟩ := hab
    by_cases hd : d = 2
    · subst hd
      exact applyOr m lB rB oB nB sB gsa gsb pa qa pb qb xa sa xb sb xo st op x3 x4 y3 y4 z3 z4 w0 v hL hR hO hN lo hb ha0 hb0 la lb ra rb hm g1 g2 g3 g4 g5
    · exact applyAnd d hd m lB rB oB nB sB gsa gsb pa qa pb qb xa sa xb sb xo st op x3 x4 y3 y4 z3 z4 w0 v hL hR hO hN lo hb ha0 hb0 la lb ra rb hm g1 g2 g3 g4 g5

/-- What ZZApply answers. -/
def ZO (w : World) (d : Int) (m : Nat) (xa sa : List Int) (ap : Bool) (xb sb : List Int) (bp : Bool) (e : Ending) (w' : World) : Prop :=
  ∃ (p q : Option Addr) (g h : Nat) (st : List Int), e = .returned (.tuple #[.slice p m m, .slice q m m, .bool (ap && bp)]) ∧
    Sl w' p g ((NL d m xa (eff ap sa) xb (eff bp sb)).map (Value.int .i64)) 2 ∧ w.heap.size ≤ g ∧ Sl w' q h (st.map (Value.int .u8)) 5 ∧ w.heap.size ≤ h ∧ st.length = m ∧
    ((ap && bp) = false → st = SL d m xa (eff ap sa) xb (eff bp sb)) ∧ Kp [] w w'

set_option maxRecDepth 1000000 in
set_option maxHeartbeats 2000000 in
theorem zzTail (d : Int) (m lB rB oB nB sB gsa gsb : Nat) (pa qa pb qb : Option Addr) (xa sa xb sb : List Int) (xo st : List Int) (ap bp op : Bool) (x3 x4 y3 y4 z3 z4 : Value) (w0 v : World) (u1 u2 u3 u4 u5 u6 u7 u8 u9 u10 u11 u12 u13 u14 u15 u16 u17 u21 u22 u23 u24 u25 u26 u27 u28 u29 u30 u31 u32 u33 u34 u35 u36 u37 u38 u39 u40 u41 u42 u43 u44 u45 u46 u47 u48 u49 u50 u51 u52 u53 u54 u55 u56 u57 u58 u59 : Value)
    (hL : IV v lB pa qa gsa sa ap m x3 x4) (hR : IV v rB pb qb gsb sb bp m y3 y4) (hO : IV v oB (some ⟨nB, 0, none⟩) (some ⟨sB, 0, none⟩) sB st op m z3 z4) (hN : Sl v (some ⟨nB, 0, none⟩) nB (xo.map (Value.int .i64)) 2) (lo : xo.length = m)
    (hb : Below w0.heap.size w0 v) (ha0 : Src w0 pa (xa.map (Value.int .i64))) (hb0 : Src w0 pb (xb.map (Value.int .i64))) (la : xa.length = m) (lb : xb.length = m)
    (ra : ∀ z ∈ xa, -9223372036854775808 ≤ z ∧ z ≤ 9223372036854775807) (rb : ∀ z ∈ xb, -9223372036854775808 ≤ z ∧ z ≤ 9223372036854775807)
    (hm : m ≤ 65536) (g0 : w0.heap.size ≤ oB) (g1 : w0.heap.size ≤ nB) (g1' : w0.heap.size ≤ sB) (g2 : nB ≠ oB) (g3 : nB ≠ sB) (g4 : oB ≠ sB) (g5 : nB < v.heap.size) (g6 : sB < v.heap.size)
    (gg : 0 < m → w0.heap.size ≤ gsa ∧ w0.heap.size ≤ gsb ∧ lB ≠ gsa ∧ rB ≠ gsa ∧ lB ≠ gsb ∧ rB ≠ gsb ∧ oB ≠ gsa ∧ oB ≠ gsb ∧ gsa ≠ gsb ∧ nB ≠ gsa ∧ nB ≠ gsb ∧ sB ≠ gsa ∧ sB ≠ gsb)
    (K : Act → World → Prop) (hK : ∀ a w', Code.wp Try.prog (restOf2 5 Try.f41) (bodyPost Try.prog Try.f41 (ZO w0 d m xa sa ap xb sb bp)) a w' → K a w') :
    Code.wp Try.prog (headOf2 5 Try.f41) (Exit.then K (bodyPost Try.prog Try.f41 (ZO w0 d m xa sa ap xb sb bp))) ⟨#[.int .i8 d, u1, u2, u3, u4, u5, u6, u7, u8, u9, u10, u11, u12, u13, u14, u15, u16, u17, .pointer (some ⟨lB, 0, none⟩), .pointer (some ⟨rB, 0, none⟩), .pointer (some ⟨oB, 0, none⟩), u21, u22, u23, u24, u25, u26, u27, u28, u29, u30, u31, u32, u33, u34, u35, u36, u37, u38, u39, u40, u41, u42, u43, u44, u45, u46, u47, u48, u49, u50, u51, u52, u53, u54, u55, u56, u57, u58, u59], []⟩ v := by
  conv at hK => enter [a, w', 1, 2]; whnf
  conv => arg 2; whnf
  have C : Hid (Calls Try.prog 59 #[.agg #[.int .i8 d], .pointer (some ⟨lB, 0, none⟩), .pointer (some ⟨rB, 0, none⟩), .pointer (some ⟨oB, 0, none⟩)] v (ApOut v d m oB nB sB gsa gsb xa (eff ap sa) xb (eff bp sb) ap bp z3 z4)) := (apply59 d m lB rB oB nB sB gsa gsb pa qa pb qb xa sa xb sb xo st ap bp op x3 x4 y3 y4 z3 z4 w0 v hL hR hO hN lo hb ha0 hb0 la lb ra rb hm g0 g1 g1' g2 g3 g4 g5 g6 gg)
  have HB : Hid (Below w0.heap.size w0 v) := hb
  have GG : Hid (0 < m → w0.heap.size ≤ gsa ∧ w0.heap.size ≤ gsb) := fun h => ⟨(gg h).1, (gg h).2.1⟩
  clear hL hR hO hN ha0 hb0 ra rb hb gg
  go_wp2_with (go_at_call 59; refine C.out.mono ?_; rintro e w1 ⟨rfl, bO, bN, ⟨st', ls', bS, hst⟩, hK1⟩)
  have c0 : w1.cell? ⟨oB, 0, none⟩ = some (.slice (some ⟨nB, 0, none⟩) m m) := bO.cell rfl
  have c1 : w1.cell? ⟨oB, 1, none⟩ = some (.slice (some ⟨sB, 0, none⟩) m m) := bO.cell rfl
  have c2 : w1.cell? ⟨oB, 2, none⟩ = some (.bool (ap && bp)) := bO.cell rfl
  have b1 : Below w0.heap.size w0 w1 := hK1.below HB.out HB.out.size (fun k h => by
    simp at h
    rcases h with rfl | rfl | rfl | h | h
    · exact g0
    · exact g1
    · exact g1'
    · obtain ⟨h1, rfl⟩ := mem_gl.1 h; exact (GG.out h1).1
    · obtain ⟨h1, rfl⟩ := mem_gl.1 h; exact (GG.out h1).2)
  have lo1 := bO.lt
  have D : Hid (∀ n, Calls Try.prog 60 #[.slice (some ⟨sB, 0, none⟩) m m] (w1.drewN n) (Cl (w1.drewN n) m (st'.map (Value.int .u8)) 5)) := fun n => by
    have := clo60 (some ⟨sB, 0, none⟩) m st' (w1.drewN n) (by omega) ((bS.kp ((Kp.refl [] _).drewN n) (by simp)).src) (by simp)
    rwa [ls'] at this
  have BN : Hid (Sl w1 (some ⟨nB, 0, none⟩) nB ((NL d m xa (eff ap sa) xb (eff bp sb)).map (Value.int .i64)) 2) := bN
  have HS : Hid ((ap && bp) = false → st' = SL d m xa (eff ap sa) xb (eff bp sb)) := hst
  have B1 : Hid (Below w0.heap.size w0 w1) := b1
  clear bN hst b1 bS hK1 bO HB C
  generalize hpl : (ap && bp) = pl at *
  go_region_held3 (fun w' => w'.cell? ⟨oB, 0, none⟩ = some (.slice (some ⟨nB, 0, none⟩) m m) ∧ w'.cell? ⟨oB, 1, none⟩ = some (.slice (some ⟨sB, 0, none⟩) m m) ∧ w'.cell? ⟨oB, 2, none⟩ = some (.bool pl))
    (first | exact ⟨(hK5.cell (p := ⟨oB, 0, none⟩) (show oB < w1.heap.size from lo1) (by simp)).trans c0, (hK5.cell (p := ⟨oB, 1, none⟩) (show oB < w1.heap.size from lo1) (by simp)).trans c1, (hK5.cell (p := ⟨oB, 2, none⟩) (show oB < w1.heap.size from lo1) (by simp)).trans c2⟩ | go_keep)
    (first | (go_at_call 60; refine (D.out 1).mono ?_; rintro e w5 ⟨p5, rfl, hS5, hK5, hs5⟩))
  go_wp2
  go_ret3
  exact ⟨_, _, nB, w1.heap.size, st', by subst hpl; rfl, BN.out.kp (((Kp.refl [] _).drewN 1).trans hK5) (by simp), g1, hS5, B1.out.size, ls', fun h => HS.out (by rw [← hpl]; exact h), (((Below.kp B1.out).drewN 1).trans hK5)⟩

set_option maxRecDepth 1000000 in
set_option maxHeartbeats 2000000 in
theorem zz41 (d : Int) (m : Nat) (pa qa pb qb : Option Addr) (xa sa xb sb : List Int) (ap bp : Bool) (w : World)
    (ha0 : Src w pa (xa.map (Value.int .i64))) (hb0 : Src w pb (xb.map (Value.int .i64))) (hsa : Src w qa (sa.map (Value.int .u8))) (hsb : Src w qb (sb.map (Value.int .u8)))
    (la : xa.length = m) (lb : xb.length = m) (lsa : sa.length = m) (lsb : sb.length = m) (hqa : qa = none → m = 0) (hqb : qb = none → m = 0)
    (ra : ∀ z ∈ xa, -9223372036854775808 ≤ z ∧ z ≤ 9223372036854775807) (rb : ∀ z ∈ xb, -9223372036854775808 ≤ z ∧ z ≤ 9223372036854775807) (hm : m ≤ 65536) :
    Calls Try.prog 41 #[.int .i8 d, .slice pa m m, .slice qa m m, .bool ap, .slice pb m m, .slice qb m m, .bool bp] w (ZO w d m xa sa ap xb sb bp) := by
  have C1 : Hid (Calls Try.prog 58 #[.slice qa m m] w (Cl w m (sa.map (Value.int .u8)) 86)) := by
    have := clo58 qa m sa w (by omega) hsa (fun h => by have := hqa h; omega)
    rwa [lsa] at this
  have C2 : Hid (∀ v, Kp [] w v → Calls Try.prog 58 #[.slice qb m m] v (Cl v m (sb.map (Value.int .u8)) 86)) := fun v hv => by
    have := clo58 qb m sb v (by omega) (hsb.kp hv (by simp)) (fun h => by have := hqb h; omega)
    rwa [lsb] at this
  have hmk1 := fun w => run_make_row' (P := Try.prog) 27 2 (.int .i64 0) 8 Try.underlying27 cinfo2 rfl .i64 .i64 m (by omega) (by omega) w
  have hmk2 := fun w => run_make_row' (P := Try.prog) 85 86 (.int .u8 0) 1 Try.underlying85 cinfo86 rfl .i64 .i64 m (by omega) (by omega) w
  have RA : Hid (∀ z ∈ xa, -9223372036854775808 ≤ z ∧ z ≤ 9223372036854775807) := ra
  have RB : Hid (∀ z ∈ xb, -9223372036854775808 ≤ z ∧ z ≤ 9223372036854775807) := rb
  clear hsa hsb ra rb hqa hqb
  go_enter Try.func41, Try.ntmps41
  go_wp2_with (first | (go_at_call_of 58 (Value.slice qa m m); refine C1.out.mono ?_; rintro e w1 ⟨p1, rfl, hS1, hK1, hs1⟩) | (go_at_call_of 58 (Value.slice qb m m); refine (C2.out _ (hK1.alloc _)).mono ?_; rintro e w2 ⟨p2, rfl, hS2, hK2, hs2⟩))
  go_region
  all_goals (
    have e1 : Blk w2 w1.heap.size [.slice pa m m, .slice p1 m m, .bool ap, .int .i64 0, .int .u8 0] 90 := hK2.blk (Blk.new w1 _ 90) (by simp)
    have hS1b : Sl w2 p1 w.heap.size (sa.map (Value.int .u8)) 86 := (hS1.kp ((Kp.refl [] _).alloc _) (by simp)).kp hK2 (by simp)
    have kw2 : Kp [] w w2 := (hK1.alloc _).trans hK2
    have z1 := hK1.size
    have z2 := hK2.size
    rw [World.size_alloc] at hS2 z2)
  · have F := four_alloc w2 #[.slice pb m m, .slice p2 m m, .bool bp, .int .i64 0, .int .u8 0] (madeCells #[.int .i64 0] m) (madeCells #[.int .u8 0] m) #[.slice (some ⟨w2.heap.size + 1, 0, none⟩) m m, .slice (some ⟨w2.heap.size + 1 + 1, 0, none⟩) m m, .bool false, .int .i64 0, .int .u8 0] 90 2 86 90
    obtain ⟨f1, f2, f3, f4, f5, f6⟩ := F
    rw [made_list] at f2 f3
    go_upto_region 5 with fail
    refine zzTail d m w1.heap.size w2.heap.size (w2.heap.size + 1 + 1 + 1) (w2.heap.size + 1) (w2.heap.size + 1 + 1) w.heap.size (w1.heap.size + 1) pa p1 pb p2 xa sa xb sb (List.replicate m 0) (List.replicate m 0) ap bp false (.int .i64 0) (.int .u8 0) (.int .i64 0) (.int .u8 0) (.int .i64 0) (.int .u8 0) w _ _ _ _ _ _ _ _ _ _ _ _ _ _ _ _ _ _ _ _ _ _ _ _ _ _ _ _ _ _ _ _ _ _ _ _ _ _ _ _ _ _ _ _ _ _ _ _ _ _ _ _ _ _ _ _ _
      ⟨f6.blk e1 (by simp), hS1b.kp f6 (by simp), lsa⟩ ⟨f1, hS2.kp f6 (by simp), lsb⟩ ⟨f4, fun _ => ⟨rfl, by simpa using f3⟩, by simp⟩ (fun _ => ⟨rfl, by simpa using f2⟩) (by simp) ((Kp.trans kw2 f6).toBelow) ha0 hb0 la lb RA.out RB.out hm (by omega) (by omega) (by omega) (by omega) (by omega) (by omega) (by rw [f5]; omega) (by rw [f5]; omega) (fun h => by
        have t1 := (hS1 (by simp [lsa]; omega)).2.lt
        have t2 := (hS2 (by simp [lsb]; omega)).2.lt
        refine ⟨?_, ?_, ?_, ?_, ?_, ?_, ?_, ?_, ?_, ?_, ?_, ?_, ?_⟩ <;> omega) _ ?_
    assumption
  · have F := four_alloc w2 #[.slice pb m m, .slice p2 m m, .bool bp, .int .i64 0, .int .u8 0] (madeCells #[.int .u8 0] m) (madeCells #[.int .i64 0] m) #[.slice (some ⟨w2.heap.size + 1 + 1, 0, none⟩) m m, .slice (some ⟨w2.heap.size + 1, 0, none⟩) m m, .bool false, .int .i64 0, .int .u8 0] 90 86 2 90
    obtain ⟨f1, f2, f3, f4, f5, f6⟩ := F
    rw [made_list] at f2 f3
    go_upto_region 5 with fail
    refine zzTail d m w1.heap.size w2.heap.size (w2.heap.size + 1 + 1 + 1) (w2.heap.size + 1 + 1) (w2.heap.size + 1) w.heap.size (w1.heap.size + 1) pa p1 pb p2 xa sa xb sb (List.replicate m 0) (List.replicate m 0) ap bp false (.int .i64 0) (.int .u8 0) (.int .i64 0) (.int .u8 0) (.int .i64 0) (.int .u8 0) w _ _ _ _ _ _ _ _ _ _ _ _ _ _ _ _ _ _ _ _ _ _ _ _ _ _ _ _ _ _ _ _ _ _ _ _ _ _ _ _ _ _ _ _ _ _ _ _ _ _ _ _ _ _ _ _ _
      ⟨f6.blk e1 (by simp), hS1b.kp f6 (by simp), lsa⟩ ⟨f1, hS2.kp f6 (by simp), lsb⟩ ⟨f4, fun _ => ⟨rfl, by simpa using f2⟩, by simp⟩ (fun _ => ⟨rfl, by simpa using f3⟩) (by simp) ((Kp.trans kw2 f6).toBelow) ha0 hb0 la lb RA.out RB.out hm (by omega) (by omega) (by omega) (by omega) (by omega) (by omega) (by rw [f5]; omega) (by rw [f5]; omega) (fun h => by
        have t1 := (hS1 (by simp [lsa]; omega)).2.lt
        have t2 := (hS2 (by simp [lsb]; omega)).2.lt
        refine ⟨?_, ?_, ?_, ?_, ?_, ?_, ?_, ?_, ?_, ?_, ?_, ?_, ?_⟩ <;> omega) _ ?_
    assumption
end Go.Proofs.Qxb6001672a
