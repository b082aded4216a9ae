/-
  Emptied: (*Rows).emptied (56).
-/
import Derived.Test.Qxb6001672aEmS
set_option linter.unusedSimpArgs false
set_option linter.unusedVariables false
namespace Go.Proofs.Qxb6001672a
open Go.RowKit

/-- A found column in the list's row: its three lists, of one item each, in blocks of their own. -/
def Col (ys : List Value) (u : World) (B H rB g i : Nat) : Prop :=
  ∃ a b d, ys[i * 5 + 1]? = some (.slice (some ⟨a, 0, none⟩) 1 1) ∧ ys[i * 5 + 2]? = some (.slice (some ⟨b, 0, none⟩) 1 1) ∧ ys[i * 5 + 3]? = some (.slice (some ⟨d, 0, none⟩) 1 1) ∧
    (B ≤ a ∧ a < H ∧ a ≠ g ∧ a ≠ rB) ∧ (B ≤ b ∧ b < H ∧ b ≠ g ∧ b ≠ rB) ∧ (B ≤ d ∧ d < H ∧ d ≠ g ∧ d ≠ rB) ∧ Rm u 2 (some ⟨a, 0, none⟩) 1 ∧ Rm u 9 (some ⟨b, 0, none⟩) 1 ∧ Rm u 4 (some ⟨d, 0, none⟩) 1
theorem Col.shp {ys : List Value} {u v : World} {B H rB g i : Nat} (h : Col ys u B H rB g i) (k : Shp u v) : Col ys v B H rB g i := by
  obtain ⟨a, b, d, h1, h2, h3, h4, h5, h6, h7, h8, h9⟩ := h
  exact ⟨a, b, d, h1, h2, h3, h4, h5, h6, h7.shp k, h8.shp k, h9.shp k⟩

/-- What the loop over the found columns keeps. -/
structure EInv (w1 : World) (B U H rB g nf : Nat) (R Z : List Value) (pw pt pr : Option Addr) (cw ct cr : Nat) (u : World) (k : Nat) : Prop where
  below : Below B w1 u
  bh : B ≤ U
  uh : U ≤ H
  hi : ∀ k, U ≤ k → k < H → u.heap[k]? = w1.heap[k]?
  r : Blk u rB R 67
  z : Blk u H Z 67
  m1 : Rm u 53 pw cw
  m2 : Rm u 48 pt ct
  m3 : Rm u 9 pr cr
  f : 0 < nf → ∃ ys, Blk u g ys 102 ∧ nf * 5 ≤ ys.length ∧ ∀ i, k ≤ i → i < nf → Col ys u B U rB g i

section
variable {w1 : World} {B U H rB g nf : Nat} {R Z : List Value} {pw pt pr : Option Addr} {cw ct cr : Nat} {u v : World} {k : Nat}
theorem EInv.next (h : EInv w1 B U H rB g nf R Z pw pt pr cw ct cr u k) : EInv w1 B U H rB g nf R Z pw pt pr cw ct cr u (k + 1) :=
  ⟨h.below, h.bh, h.uh, h.hi, h.r, h.z, h.m1, h.m2, h.m3, fun h0 => by
    obtain ⟨ys, h1, h2, h3⟩ := h.f h0
    exact ⟨ys, h1, h2, fun i hi => h3 i (by omega)⟩⟩
theorem EInv.turn {x : Nat} (h : EInv w1 B U H rB g nf R Z pw pt pr cw ct cr u k) (hs : Shp u v) (hk : Kp [x] u v) (h1 : B ≤ x) (h2 : x < U) (h3 : x ≠ g) (h4 : x ≠ rB) : EInv w1 B U H rB g nf R Z pw pt pr cw ct cr v k where
  below := h.below.trans ⟨hk.os, hk.tape, hk.output, hk.size, fun i hi => by
    by_cases hl : i < u.heap.size
    · exact hk.block i hl (by simp; omega)
    · have := (h.z).lt; have := h.uh; omega⟩
  bh := h.bh
  uh := h.uh
  hi := fun k k1 k2 => (hk.block k (by have := h.z.lt; omega) (by simp; omega)).trans (h.hi k k1 k2)
  r := hk.blk h.r (by simpa using h4.symm)
  z := hk.blk h.z (by simp; have := h.uh; omega)
  m1 := h.m1.shp hs
  m2 := h.m2.shp hs
  m3 := h.m3.shp hs
  f := fun h0 => by
    obtain ⟨ys, h5, h6, h7⟩ := h.f h0
    exact ⟨ys, hk.blk h5 (by simpa using h3.symm), h6, fun i hi hn => (h7 i hi hn).shp hs⟩
theorem shp_set {g : Nat} {ys : List Value} {t : TypeId} (hb : Blk u g ys t) (i : Nat) (x : Value) : Shp u (u.setCell ⟨g, i, none⟩ x) :=
  Shp.of_kp ((Kp.refl [g] u).setCell (p := ⟨g, i, none⟩) (.inl (by simp)) x) hb (hb.set i x) (by simp)
theorem EInv.set (h : EInv w1 B U H rB g nf R Z pw pt pr cw ct cr u (k + 1)) (hkn : k < nf) (hB : B ≤ g) (hgH : g < U) (hgr : g ≠ rB) (j : Nat) (hj : j < 5) (x : Value) :
    EInv w1 B U H rB g nf R Z pw pt pr cw ct cr (u.setCell ⟨g, k * 5 + j, none⟩ x) (k + 1) := by
  obtain ⟨ys, h5, h6, h7⟩ := h.f (by omega)
  have hk : Kp [g] u (u.setCell ⟨g, k * 5 + j, none⟩ x) := (Kp.refl [g] u).setCell (p := ⟨g, k * 5 + j, none⟩) (.inl (by simp)) x
  have hs := shp_set h5 (k * 5 + j) x
  have huh := h.uh
  have hbh := h.bh
  refine ⟨h.below.trans ⟨hk.os, hk.tape, hk.output, hk.size, fun i hi => hk.block i (by have := h.z.lt; omega) (by simp; omega)⟩, h.bh, h.uh, fun i k1 k2 => (hk.block i (by have := h.z.lt; omega) (by simp; omega)).trans (h.hi i k1 k2), hk.blk h.r (by simpa using hgr.symm), hk.blk h.z (by simp; omega), h.m1.shp hs, h.m2.shp hs, h.m3.shp hs, fun _ => ?_⟩
  refine ⟨_, h5.set (k * 5 + j) x, by simpa using h6, fun i hi hn => ?_⟩
  obtain ⟨a, b, d, c1, c2, c3, r1⟩ := (h7 i hi hn).shp hs
  refine ⟨a, b, d, ?_, ?_, ?_, r1⟩
  · rw [List.getElem?_set_ne (by omega)]; exact c1
  · rw [List.getElem?_set_ne (by omega)]; exact c2
  · rw [List.getElem?_set_ne (by omega)]; exact c3
theorem EInv.kp (h : EInv w1 B U H rB g nf R Z pw pt pr cw ct cr u k) (hk : Kp [] u v) : EInv w1 B U H rB g nf R Z pw pt pr cw ct cr v k where
  below := h.below.trans ⟨hk.os, hk.tape, hk.output, hk.size, fun i hi => by
    by_cases hl : i < u.heap.size
    · exact hk.block i hl (by simp)
    · have := h.z.lt; have := h.bh; have := h.uh; omega⟩
  bh := h.bh
  uh := h.uh
  hi := fun k k1 k2 => (hk.block k (by have := h.z.lt; omega) (by simp)).trans (h.hi k k1 k2)
  r := hk.blk h.r (by simp)
  z := hk.blk h.z (by simp)
  m1 := h.m1.shp (Shp.keep hk)
  m2 := h.m2.shp (Shp.keep hk)
  m3 := h.m3.shp (Shp.keep hk)
  f := fun h0 => by
    obtain ⟨ys, h5, h6, h7⟩ := h.f h0
    exact ⟨ys, hk.blk h5 (by simp), h6, fun i hi hn => (h7 i hi hn).shp (Shp.keep hk)⟩
theorem EInv.turnP {p : Option Addr} (h : EInv w1 B U H rB g 0 R Z pw pt pr cw ct cr u 0) (hs : Shp u v) (hk : Kp (blkOf p) u v) (hq : ∀ a, p = some a → B ≤ a.block ∧ a.block < U ∧ a.block ≠ rB) : EInv w1 B U H rB g 0 R Z pw pt pr cw ct cr v 0 := by
  have huh := h.uh
  have hbh := h.bh
  have hx : ∀ x, x ∈ blkOf p → B ≤ x ∧ x < U ∧ x ≠ rB := fun x hx => by
    cases p with
    | none => simp [blkOf] at hx
    | some a => simp [blkOf] at hx; subst hx; exact hq a rfl
  refine ⟨h.below.trans ⟨hk.os, hk.tape, hk.output, hk.size, fun i hi => hk.block i (by have := h.z.lt; have := h.bh; omega) (fun e => by have := (hx i e).1; omega)⟩, h.bh, h.uh, fun i k1 k2 => (hk.block i (by have := h.z.lt; omega) (fun e => by have := (hx i e).2.1; omega)).trans (h.hi i k1 k2), hk.blk h.r (fun e => (hx _ e).2.2 rfl), hk.blk h.z (fun e => by have := (hx _ e).2.1; omega), h.m1.shp hs, h.m2.shp hs, h.m3.shp hs, fun h0 => by omega⟩
end

/-- What is known of a list that 'emptied' gave back. -/
def OutOf (u : World) (e : TypeId) (p : Option Addr) (c : Nat) (v : Value) : Prop := ∃ p' c', v = .slice p' 0 c' ∧ (p' = p ∧ c' = c ∨ p' = none ∧ c' = 0) ∧ Rm u e p' c'
theorem OutOf.shp {u v : World} {e : TypeId} {p : Option Addr} {c : Nat} {x : Value} (h : OutOf u e p c x) (k : Shp u v) : OutOf v e p c x := by
  obtain ⟨p', c', h1, h2, h3⟩ := h
  exact ⟨p', c', h1, h2, h3.shp k⟩

/-- What the method hands back. -/
def EmO (w : World) (B U : Nat) (pw pt pr pf : Option Addr) (cw ct cr cf : Nat) (e : Ending) (w' : World) : Prop :=
  ∃ pw' pt' pr' cw' ct' cr', e = .returned (.agg #[.pointer none, .slice pw' 0 cw', .slice pt' 0 ct', .slice pr' 0 cr', .slice pf 0 cf]) ∧
    (pw' = pw ∧ cw' = cw ∨ pw' = none ∧ cw' = 0) ∧ (pt' = pt ∧ ct' = ct ∨ pt' = none ∧ ct' = 0) ∧ (pr' = pr ∧ cr' = cr ∨ pr' = none ∧ cr' = 0) ∧
    Rm w' 53 pw' cw' ∧ Rm w' 48 pt' ct' ∧ Rm w' 9 pr' cr' ∧ Below B w w' ∧ ∀ k, U ≤ k → k < w.heap.size → w'.heap[k]? = w.heap[k]?

set_option maxRecDepth 100000 in
set_option maxHeartbeats 2000000 in
theorem em56 (B U rB g nf nw nt nr cw ct cr cf : Nat) (x0 : Value) (pw pt pr pf : Option Addr) (w : World)
    (hR : Blk w rB [x0, .slice pw nw cw, .slice pt nt ct, .slice pr nr cr, .slice pf nf cf] 67) (hB : B ≤ U) (hU : U ≤ w.heap.size)
    (m1 : Rm w 53 pw cw) (m2 : Rm w 48 pt ct) (m3 : Rm w 9 pr cr)
    (q1 : ∀ a, pw = some a → B ≤ a.block ∧ a.block < U ∧ a.block ≠ rB) (q2 : ∀ a, pt = some a → B ≤ a.block ∧ a.block < U ∧ a.block ≠ rB) (q3 : ∀ a, pr = some a → B ≤ a.block ∧ a.block < U ∧ a.block ≠ rB)
    (z1 : pw = none → cw = 0) (z2 : pt = none → ct = 0) (z3 : pr = none → cr = 0) (l1 : nw ≤ cw) (l2 : nt ≤ ct) (l3 : nr ≤ cr) (l4 : nf ≤ cf) (s1 : cw ≤ 1048576) (s2 : ct ≤ 1048576) (s3 : cr ≤ 1048576) (s4 : nf ≤ 1024) (zf : pf = none → cf = 0)
    (hf : 0 < nf → pf = some ⟨g, 0, none⟩ ∧ B ≤ g ∧ g < U ∧ g ≠ rB ∧ ∃ ys, Blk w g ys 102 ∧ nf * 5 ≤ ys.length ∧ ∀ i, i < nf → Col ys w B U rB g i) :
    Calls Try.prog 56 #[.pointer (some ⟨rB, 0, none⟩)] w (EmO w B U pw pt pr pf cw ct cr cf) := by
  obtain ⟨w1, hw1⟩ : ∃ w1, w1 = w.alloc (.cells #[.pointer none, .slice none 0 0, .slice none 0 0, .slice none 0 0, .slice none 0 0] 67) := ⟨_, rfl⟩
  have k1 : Kp [] w w1 := by rw [hw1]; exact (Kp.refl _ _).alloc _
  have I0 : Hid (EInv w1 B U w.heap.size rB g nf [x0, .slice pw nw cw, .slice pt nt ct, .slice pr nr cr, .slice pf nf cf] [.pointer none, .slice none 0 0, .slice none 0 0, .slice none 0 0, .slice none 0 0] pw pt pr cw ct cr w1 0) :=
    ⟨Below.refl _ _, hB, hU, fun _ _ _ => rfl, k1.blk hR (by simp), by rw [hw1]; exact Blk.new w _ _, m1.shp (Shp.keep k1), m2.shp (Shp.keep k1), m3.shp (Shp.keep k1), fun h0 => by
      obtain ⟨_, _, _, _, ys, h1, h2, h3⟩ := hf h0
      exact ⟨ys, k1.blk h1 (by simp), h2, fun i _ hi => (h3 i hi).shp (Shp.keep k1)⟩⟩
  have c4 : w1.cell? ⟨rB, 4, none⟩ = some (.slice pf nf cf) := (unhide I0).r.cell rfl
  have HF : Hid (0 < nf → pf = some ⟨g, 0, none⟩ ∧ B ≤ g ∧ g < U ∧ g ≠ rB) := fun h0 => by
    obtain ⟨a, b, c, d, _⟩ := hf h0
    exact ⟨a, b, c, d⟩
  have Q1 := hide q1
  have Q2 := hide q2
  have Q3 := hide q3
  have Z1 := hide z1
  have Z2 := hide z2
  have Z3 := hide z3
  have ZF := hide zf
  have KU : Hid (∀ k, k < w.heap.size → w1.heap[k]? = w.heap[k]?) := fun k hk => k1.block k hk (by simp)
  have KB : Hid (Below B w w1) := ⟨k1.os, k1.tape, k1.output, k1.size, fun i hi => k1.block i (by omega) (by simp)⟩
  have hrH := hR.lt
  clear hR m1 m2 m3 q1 q2 q3 z1 z2 z3 hf k1 zf
  have HW1 := hide hw1
  clear hw1
  have c4' := c4
  rw [unhide HW1] at c4'
  go_enter Try.func56, Try.ntmps56
  go_wp2
  rw [← unhide HW1]
  clear c4'
  obtain ⟨H, hH⟩ : ∃ H, H = w.heap.size := ⟨_, rfl⟩
  rw [← hH] at I0 hU hrH ⊢
  have HH := hide hH
  clear hH HW1
  go_loopw [12] (fun i wr => ∃ k : Nat, k ≤ nf ∧ i = .int .i64 k ∧ EInv w1 B U H rB g nf [x0, .slice pw nw cw, .slice pt nt ct, .slice pr nr cr, .slice pf nf cf] [.pointer none, .slice none 0 0, .slice none 0 0, .slice none 0 0, .slice none 0 0] pw pt pr cw ct cr wr k) (fun i _ => nf - (intOf i).toNat)
  case atStart => exact ⟨0, Nat.zero_le _, rfl, unhide I0⟩
  case round =>
    obtain ⟨k, hk, rfl, hI⟩ := hrel
    have I := hide hI
    clear hI I0
    by_cases hlt : k < nf
    · obtain ⟨rfl, g1, g2, g3⟩ := (unhide HF) (by omega)
      obtain ⟨ys, hys, hyl, hcol⟩ := (unhide I).f (by omega)
      obtain ⟨a, b, d, e1, e2, e3, a1, b1, d1, r1, r2, r3⟩ := hcol k (Nat.le_refl _) hlt
      have i1 : (k : Int) < (nf : Int) := by omega
      clear Q1 Q2 Q3 Z1 Z2 Z3 ZF HF c4
      obtain ⟨J, hJ⟩ : ∃ J : World → Prop, J = fun u => EInv w1 B U H rB g nf [x0, .slice pw nw cw, .slice pt nt ct, .slice pr nr cr, .slice (some ⟨g, 0, none⟩) nf cf] [.pointer none, .slice none 0 0, .slice none 0 0, .slice none 0 0, .slice none 0 0] pw pt pr cw ct cr u (k + 1) := ⟨_, rfl⟩
      have J0 : J wr.drew := by rw [hJ]; exact ((unhide I).next).kp (Kp.refl [] wr).drew
      have JT : ∀ x u v, J u → Shp u v → Kp [x] u v → (B ≤ x ∧ x < U ∧ x ≠ g ∧ x ≠ rB) → J v := fun x u v h hs hk hx => by
        rw [hJ] at h ⊢
        exact EInv.turn h hs hk hx.1 hx.2.1 hx.2.2.1 hx.2.2.2
      have JS : Hid (∀ u v1 v2 v3, J u → EInv w1 B U H rB g nf [x0, .slice pw nw cw, .slice pt nt ct, .slice pr nr cr, .slice (some ⟨g, 0, none⟩) nf cf] [.pointer none, .slice none 0 0, .slice none 0 0, .slice none 0 0, .slice none 0 0] pw pt pr cw ct cr (((u.setCell ⟨g, k * 5 + 1, none⟩ v1).setCell ⟨g, k * 5 + 2, none⟩ v2).setCell ⟨g, k * 5 + 3, none⟩ v3) (k + 1)) := fun u v1 v2 v3 h => by
        rw [hJ] at h
        exact (((EInv.set h hlt g1 g2 g3 1 (by omega) _).set hlt g1 g2 g3 2 (by omega) _).set hlt g1 g2 g3 3 (by omega) _)
      have C1 : Hid (Calls Try.prog 63 #[.slice (some ⟨a, 0, none⟩) 1 1] wr.drew (Ret fun v u => J u ∧ Blk u g ys 102 ∧ Rm u 9 (some ⟨b, 0, none⟩) 1 ∧ Rm u 4 (some ⟨d, 0, none⟩) 1)) :=
        (emp63 (some ⟨a, 0, none⟩) 1 1 wr.drew (Nat.le_refl _) (by omega) r1 (fun h => by cases h)).mono fun e u he => by
          obtain ⟨p, c, rfl, _, _, hs, hk, _⟩ := he
          exact ⟨p, c, rfl, JT a _ _ J0 hs hk a1, hk.blk (show Blk wr.drew g ys 102 from hys) (by simpa [blkOf] using a1.2.2.1.symm), Rm.shp (w := wr.drew) r2 hs, Rm.shp (w := wr.drew) r3 hs⟩
      have C2 : Hid (∀ (v : Value) u, (J u ∧ Blk u g ys 102 ∧ Rm u 9 (some ⟨b, 0, none⟩) 1 ∧ Rm u 4 (some ⟨d, 0, none⟩) 1) → Calls Try.prog 64 #[.slice (some ⟨b, 0, none⟩) 1 1] u (Ret fun v u => J u ∧ Blk u g ys 102 ∧ Rm u 4 (some ⟨d, 0, none⟩) 1)) := fun v u h =>
        (emp64 (some ⟨b, 0, none⟩) 1 1 u (Nat.le_refl _) (by omega) h.2.2.1 (fun h => by cases h)).mono fun e u' he => by
          obtain ⟨p, c, rfl, _, _, hs, hk, _⟩ := he
          exact ⟨p, c, rfl, JT b _ _ h.1 hs hk b1, hk.blk h.2.1 (by simpa [blkOf] using b1.2.2.1.symm), h.2.2.2.shp hs⟩
      have C3 : Hid (∀ (v : Value) u, (J u ∧ Blk u g ys 102 ∧ Rm u 4 (some ⟨d, 0, none⟩) 1) → Calls Try.prog 65 #[.slice (some ⟨d, 0, none⟩) 1 1] u (Ret fun v u => J u ∧ Blk u g ys 102)) := fun v u h =>
        (emp65 (some ⟨d, 0, none⟩) 1 1 u (Nat.le_refl _) (by omega) h.2.2 (fun h => by cases h)).mono fun e u' he => by
          obtain ⟨p, c, rfl, _, _, hs, hk, _⟩ := he
          exact ⟨p, c, rfl, JT d _ _ h.1 hs hk d1, hk.blk h.2.1 (by simpa [blkOf] using d1.2.2.1.symm)⟩
      have YS := hide hys
      have E1 := hide e1
      have E2 := hide e2
      have E3 := hide e3
      clear hys e1 e2 e3 r1 r2 r3 a1 b1 d1 J0 JT hJ hcol I
      go_wp2
      refine Code.wp_mono (Nrm.imp (fun _ _ h => h)) (reg6 _ g k (some ⟨a, 0, none⟩) (some ⟨b, 0, none⟩) (some ⟨d, 0, none⟩) _ _ _ _ _ _ _ _ _ _ _ _ _ _ _ _ _ _ _ _ _ _ _ _ _ _ _ _ _ _ _ _ _ _ _ _ _ _ _ _ _ _ _ _ _ _ _ _ _ _ _ _ _ _ _ _ _ _ _ _ _ _ _ wr ((unhide YS).cell (unhide E1)) ((unhide YS).cell (unhide E2)) ((unhide YS).cell (unhide E3)) C1 C2 C3
        (fun v u h => ⟨h.2.1.cell (unhide E2), h.2.1.cell (unhide E3)⟩) (fun v u h => h.2.1.cell (unhide E3))
        (fun v u h => ⟨⟨h.2.cell (unhide E1), h.2.cell (unhide E2), h.2.cell (unhide E3)⟩, h.2.frozen _, h.2.frozen _, h.2.frozen _⟩) ?_)
      intro s18 s19 s20 s21 s22 s23 s24 s25 s26 s27 s28 s29 s30 s31 s32 s33 s34 s35 s36 s37 s38 s39 s40 s41 v1 v2 v3 v u hx
      have X := hide ((unhide JS) u v1 v2 v3 hx.1)
      obtain ⟨u', hu'⟩ : ∃ u', u' = ((u.setCell ⟨g, k * 5 + 1, none⟩ v1).setCell ⟨g, k * 5 + 2, none⟩ v2).setCell ⟨g, k * 5 + 3, none⟩ v3 := ⟨_, rfl⟩
      rw [← hu'] at X ⊢
      clear hx hu' JS C1 C2 C3
      try simp only []
      go_wp2
      go_roundw
      case rel => exact ⟨k + 1, by omega, by go_num, unhide X⟩
      case measure => simp [intOf]; omega
    · clear HF
      have c1 : wr.cell? ⟨rB, 1, none⟩ = some (.slice pw nw cw) := (unhide I).r.cell rfl
      have c2 : wr.cell? ⟨rB, 2, none⟩ = some (.slice pt nt ct) := (unhide I).r.cell rfl
      have c3 : wr.cell? ⟨rB, 3, none⟩ = some (.slice pr nr cr) := (unhide I).r.cell rfl
      obtain ⟨J, hJ⟩ : ∃ J : World → Prop, J = fun u => EInv w1 B U H rB g 0 [x0, .slice pw nw cw, .slice pt nt ct, .slice pr nr cr, .slice pf nf cf] [.pointer none, .slice none 0 0, .slice none 0 0, .slice none 0 0, .slice none 0 0] pw pt pr cw ct cr u 0 := ⟨_, rfl⟩
      have J0 : J wr.drew := by
        rw [hJ]
        have I2 : EInv w1 B U H rB g 0 [x0, .slice pw nw cw, .slice pt nt ct, .slice pr nr cr, .slice pf nf cf] [.pointer none, .slice none 0 0, .slice none 0 0, .slice none 0 0, .slice none 0 0] pw pt pr cw ct cr wr 0 := ⟨(unhide I).below, (unhide I).bh, (unhide I).uh, (unhide I).hi, (unhide I).r, (unhide I).z, (unhide I).m1, (unhide I).m2, (unhide I).m3, fun h0 => by omega⟩
        exact I2.kp (Kp.refl [] wr).drew
      have JT : ∀ (p : Option Addr) u v, J u → Shp u v → Kp (blkOf p) u v → (∀ a, p = some a → B ≤ a.block ∧ a.block < U ∧ a.block ≠ rB) → J v := fun p u v h hs hk hx => by
        rw [hJ] at h ⊢
        exact h.turnP hs hk hx
      have JE : ∀ u, J u → EInv w1 B U H rB g 0 [x0, .slice pw nw cw, .slice pt nt ct, .slice pr nr cr, .slice pf nf cf] [.pointer none, .slice none 0 0, .slice none 0 0, .slice none 0 0, .slice none 0 0] pw pt pr cw ct cr u 0 := fun u h => by rw [hJ] at h; exact h
      have C1 : Hid (Calls Try.prog 66 #[.slice pw nw cw] wr.drew (Ret fun v u => J u ∧ OutOf u 53 pw cw v)) :=
        (emp66 pw nw cw wr.drew l1 s1 (JE _ J0).m1 (unhide Z1)).mono fun e u he => by
          obtain ⟨p, c, rfl, ho, hm, hs, hk, _⟩ := he
          exact ⟨p, c, rfl, JT pw _ _ J0 hs hk (unhide Q1), p, c, rfl, ho, hm⟩
      have C2 : Hid (∀ (v : Value) u, (J u ∧ OutOf u 53 pw cw v) → Calls Try.prog 67 #[.slice pt nt ct] u (Ret fun v' u => J u ∧ OutOf u 53 pw cw v ∧ OutOf u 48 pt ct v')) := fun v u h =>
        (emp67 pt nt ct u l2 s2 (JE _ h.1).m2 (unhide Z2)).mono fun e u' he => by
          obtain ⟨p, c, rfl, ho, hm, hs, hk, _⟩ := he
          exact ⟨p, c, rfl, JT pt _ _ h.1 hs hk (unhide Q2), h.2.shp hs, p, c, rfl, ho, hm⟩
      have C3 : Hid (∀ (v v' : Value) u, (J u ∧ OutOf u 53 pw cw v ∧ OutOf u 48 pt ct v') → Calls Try.prog 64 #[.slice pr nr cr] u (Ret fun v'' u => J u ∧ OutOf u 53 pw cw v ∧ OutOf u 48 pt ct v' ∧ OutOf u 9 pr cr v'')) := fun v v' u h =>
        (emp64 pr nr cr u l3 s3 (JE _ h.1).m3 (unhide Z3)).mono fun e u' he => by
          obtain ⟨p, c, rfl, ho, hm, hs, hk, _⟩ := he
          exact ⟨p, c, rfl, JT pr _ _ h.1 hs hk (unhide Q3), h.2.1.shp hs, h.2.2.shp hs, p, c, rfl, ho, hm⟩
      have DR : Hid (∀ u, J u → u.cell? ⟨rB, 1, none⟩ = some (.slice pw nw cw) ∧ u.cell? ⟨rB, 2, none⟩ = some (.slice pt nt ct) ∧ u.cell? ⟨rB, 3, none⟩ = some (.slice pr nr cr)) := fun u h =>
        ⟨(JE u h).r.cell rfl, (JE u h).r.cell rfl, (JE u h).r.cell rfl⟩
      have JEH := hide JE
      have KBH := KB
      have hz2 : pf = none → nf = 0 ∧ cf = 0 := fun h => by have := (unhide ZF) h; omega
      have HZ2 := hide hz2
      clear c4 J0 JT hJ I hz2 ZF JE KB Q1 Q2 Q3 Z1 Z2 Z3
      go_wp2
      refine Code.wp_mono (Nrm.imp (fun _ _ h => h)) (reg8 _ rB H nw nt nr nf cw ct cr cf pw pt pr pf _ _ _ _ _ _ _ _ _ _ _ _ _ _ _ _ _ _ _ _ _ _ _ _ _ _ _ _ _ _ _ _ _ _ _ _ _ _ _ _ _ _ _ _ _ _ _ _ _ _ _ _ _ _ _ _ _ _ _ _ _ wr (by omega) (by omega) (unhide HZ2) c1 c2 c3 C1 C2 C3 (fun v u h => (unhide DR) u h.1) (fun v v' u h => (unhide DR) u h.1)
        (fun v v' v'' u h => ⟨(unhide DR) u h.1, ⟨((unhide JEH) u h.1).z.cell rfl, ((unhide JEH) u h.1).z.cell rfl, ((unhide JEH) u h.1).z.cell rfl, ((unhide JEH) u h.1).z.cell rfl, ((unhide JEH) u h.1).z.cell rfl⟩, ((unhide JEH) u h.1).z.frozen _, ((unhide JEH) u h.1).z.frozen _, ((unhide JEH) u h.1).z.frozen _, ((unhide JEH) u h.1).z.frozen _, ((unhide JEH) u h.1).z.frozen _⟩) ?_)
      intro s43 s44 s45 s46 s47 s48 s49 s50 s51 s52 s53 s54 s55 s56 s57 s58 s59 s60 p1 q1 p2 q2 p3 q3 u hx
      obtain ⟨hj, ⟨_, _, h1, o1, m1⟩, ⟨_, _, h2, o2, m2⟩, ⟨_, _, h3, o3, m3⟩⟩ := hx
      cases h1
      cases h2
      cases h3
      have E := (unhide JEH) u hj
      have b0 := E.z.set 0 (.pointer none)
      have b1 := b0.set 1 (.slice p1 0 q1)
      have b2 := b1.set 2 (.slice p2 0 q2)
      have b3 := b2.set 3 (.slice p3 0 q3)
      have b4 := b3.set 4 (.slice pf 0 cf)
      have sh := ((((shp_set E.z 0 (.pointer none)).trans (shp_set b0 1 (.slice p1 0 q1))).trans (shp_set b1 2 (.slice p2 0 q2))).trans (shp_set b2 3 (.slice p3 0 q3))).trans (shp_set b3 4 (.slice pf 0 cf))
      have kk : Kp [H] u (((((u.setCell ⟨H, 0, none⟩ (.pointer none)).setCell ⟨H, 1, none⟩ (.slice p1 0 q1)).setCell ⟨H, 2, none⟩ (.slice p2 0 q2)).setCell ⟨H, 3, none⟩ (.slice p3 0 q3)).setCell ⟨H, 4, none⟩ (.slice pf 0 cf)) :=
        (((((Kp.refl [H] u).setCell (p := ⟨H, 0, none⟩) (.inl (by simp)) _).setCell (p := ⟨H, 1, none⟩) (.inl (by simp)) _).setCell (p := ⟨H, 2, none⟩) (.inl (by simp)) _).setCell (p := ⟨H, 3, none⟩) (.inl (by simp)) _).setCell (p := ⟨H, 4, none⟩) (.inl (by simp)) _
      generalize ((((u.setCell ⟨H, 0, none⟩ (.pointer none)).setCell ⟨H, 1, none⟩ (.slice p1 0 q1)).setCell ⟨H, 2, none⟩ (.slice p2 0 q2)).setCell ⟨H, 3, none⟩ (.slice p3 0 q3)).setCell ⟨H, 4, none⟩ (.slice pf 0 cf) = v at *
      have b4' : Blk v H [.pointer none, .slice p1 0 q1, .slice p2 0 q2, .slice p3 0 q3, .slice pf 0 cf] 67 := b4
      have z0 : v.cell? ⟨H, 0, none⟩ = some (.pointer none) := b4'.cell rfl
      have z1 : v.cell? ⟨H, 1, none⟩ = some (.slice p1 0 q1) := b4'.cell rfl
      have z2 : v.cell? ⟨H, 2, none⟩ = some (.slice p2 0 q2) := b4'.cell rfl
      have z3 : v.cell? ⟨H, 3, none⟩ = some (.slice p3 0 q3) := b4'.cell rfl
      have z4 : v.cell? ⟨H, 4, none⟩ = some (.slice pf 0 cf) := b4'.cell rfl
      have FIN : Hid (EmO w B U pw pt pr pf cw ct cr cf (.returned (.agg #[.pointer none, .slice p1 0 q1, .slice p2 0 q2, .slice p3 0 q3, .slice pf 0 cf])) v) :=
        ⟨p1, p2, p3, q1, q2, q3, rfl, o1, o2, o3, m1.shp sh, m2.shp sh, m3.shp sh, (unhide KBH).trans (E.below.trans ⟨kk.os, kk.tape, kk.output, kk.size, fun i hi => kk.block i (by have := E.z.lt; have := E.bh; have := E.uh; omega) (by simp; have := E.bh; have := E.uh; omega)⟩), fun k k1 k2 => by
          rw [← unhide HH] at k2
          exact ((kk.block k (by have := E.z.lt; omega) (by simp; omega)).trans (E.hi k k1 k2)).trans ((unhide KU) k (by rw [← unhide HH]; exact k2))⟩
      clear o1 o2 o3 m1 m2 m3 sh kk b0 b1 b2 b3 b4 E hj KBH JEH KU DR C1 C2 C3 b4' c1 c2 c3 HZ2
      try simp only []
      go_wp2
      refine bodyPost_ret (v := .agg #[.pointer none, .slice p1 0 q1, .slice p2 0 q2, .slice p3 0 q3, .slice pf 0 cf]) (by simp [results, Try.results56, go_sem, *]) rfl ?_
      exact unhide FIN
end Go.Proofs.Qxb6001672a
