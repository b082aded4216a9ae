/-
  (*intValues).states (50), logicalInts.apply (59).
-/
import Derived.Test.Qxb6001672aLogic
set_option linter.unusedSimpArgs false
set_option linter.unusedVariables false
namespace Go.Proofs.Qxb6001672a
open Go.RowKit

/-- The states that are read: none where the side is plain. -/
def eff (pl : Bool) (ss : List Int) : List Int := if pl then List.replicate ss.length 0 else ss
theorem eff_len (pl : Bool) (ss : List Int) : (eff pl ss).length = ss.length := by cases pl <;> simp [eff]

def StOut (w : World) (q : Option Addr) (m c g : Nat) (ss : List Int) (pl : Bool) (e : Ending) (w' : World) : Prop :=
  e = .returned (.slice q m c) ∧ Sl w' q g ((eff pl ss).map (Value.int .u8)) 86 ∧ Kp (gl m g) w w' ∧ w'.heap.size = w.heap.size

set_option maxRecDepth 100000 in
set_option maxHeartbeats 400000 in
theorem states50 (vB g : Nat) (x0 x3 x4 : Value) (q : Option Addr) (m c : Nat) (pl : Bool) (ss : List Int) (w : World) (hV : Blk w vB [x0, .slice q m c, .bool pl, x3, x4] 90) (hS : Sl w q g (ss.map (Value.int .u8)) 86)
    (hl : ss.length = m) (hg : 0 < m → vB ≠ g) : Calls Try.prog 50 #[.pointer (some ⟨vB, 0, none⟩)] w (StOut w q m c g ss pl) := by
  subst hl
  have c1 : w.cell? ⟨vB, 1, none⟩ = some (.slice q ss.length c) := hV.cell rfl
  have c2 : w.cell? ⟨vB, 2, none⟩ = some (.bool pl) := hV.cell rfl
  have hz : ∀ w, (zeroValue 86).run Try.prog w = .ok (.int .u8 0) w := fun w => by kernel_rfl
  cases pl
  · go_enter Try.func50, Try.ntmps50
    go_wp2
    go_ret
    exact ⟨rfl, by simpa [eff] using hS, Kp.refl _ _, rfl⟩
  · have HS := hS
    go_enter Try.func50, Try.ntmps50
    go_wp2_with (refine wpList_clear_blk rfl (.tmp 10) 85 rfl 86 (.int .u8 0) Try.underlying85 hz rfl rfl _ _ _ rfl g (ss.map (Value.int .u8)) 86 (fun h => ⟨(hS (by simpa using h)).1, (hS (by simpa using h)).2, by simp⟩) ?_)
    intro w1 hB hK hs
    have d1 : w1.cell? ⟨vB, 1, none⟩ = some (.slice q ss.length c) := (hK.blk hV (fun h => (hg (mem_gl.1 h).1) (mem_gl.1 h).2)).cell rfl
    have H1 : Hid (0 < ss.length → Blk w1 g (List.replicate ss.length (.int .u8 0) ++ (ss.map (Value.int .u8)).drop ss.length) 86) := hB
    clear hB c1 c2 hz
    go_wp2
    go_ret
    refine ⟨rfl, fun h0 => ?_, hK, hs⟩
    have h0' : 0 < ss.length := by simpa [eff] using h0
    have h := H1.out h0'
    rw [List.drop_eq_nil_of_le (by simp), List.append_nil] at h
    exact ⟨(HS (by simpa using h0')).1, by simpa [eff] using h⟩

/-- An intValues in memory: its block, its states. -/
structure IV (w : World) (vB : Nat) (pn : Option Addr) (ps : Option Addr) (gs : Nat) (ss : List Int) (pl : Bool) (m : Nat) (x3 x4 : Value) : Prop where
  bv : Blk w vB [.slice pn m m, .slice ps m m, .bool pl, x3, x4] 90
  bs : Sl w ps gs (ss.map (Value.int .u8)) 86
  ls : ss.length = m
theorem IV.kp {S : List Nat} {w w' : World} {vB : Nat} {pn : Option Addr} {ps : Option Addr} {gs : Nat} {ss : List Int} {pl : Bool} {m : Nat} {x3 x4 : Value} (h : IV w vB pn ps gs ss pl m x3 x4)
    (k : Kp S w w') (h1 : vB ∉ S) (h3 : 0 < m → gs ∉ S) : IV w' vB pn ps gs ss pl m x3 x4 :=
  ⟨k.blk h.bv h1, fun h0 => h.bs.kp k (h3 (by simpa [h.ls] using h0)) h0, h.ls⟩

/-- One row's integer and state. -/
def rN (d a sa b sb : Int) : Int := b2i (jn d (tru a sa) (tru b sb) == 2)
def ix (sa sb : Int) : Bool := bits .and .u8 (bits .or .u8 sa sb) 2 != 0
def rS (d a sa b sb : Int) : Int := tst (jn d (tru a sa) (tru b sb)) (ix sa sb)
def NL (d : Int) (m : Nat) (xa ea xb eb : List Int) : List Int := (List.range m).map fun i => rN d (xa.getD i 0) (ea.getD i 0) (xb.getD i 0) (eb.getD i 0)
def SL (d : Int) (m : Nat) (xa ea xb eb : List Int) : List Int := (List.range m).map fun i => rS d (xa.getD i 0) (ea.getD i 0) (xb.getD i 0) (eb.getD i 0)

theorem map_rg {α : Type} (f : Nat → α) (m i : Nat) (h : i < m) : ((List.range m).map f)[i]? = some (f i) := by simp [h]

/-- What apply leaves. -/
def ApOut (w : World) (d : Int) (m oB nB sB gsa gsb : Nat) (xa ea xb eb : List Int) (ap bp : Bool) (z3 z4 : Value) (e : Ending) (w' : World) : Prop :=
  e = .returned (.tuple #[]) ∧ Blk w' oB [.slice (some ⟨nB, 0, none⟩) m m, .slice (some ⟨sB, 0, none⟩) m m, .bool (ap && bp), z3, z4] 90 ∧
  Sl w' (some ⟨nB, 0, none⟩) nB ((NL d m xa ea xb eb).map (Value.int .i64)) 2 ∧
  (∃ st : List Int, st.length = m ∧ Sl w' (some ⟨sB, 0, none⟩) sB (st.map (Value.int .u8)) 86 ∧ ((ap && bp) = false → st = SL d m xa ea xb eb)) ∧
  Kp ([oB, nB, sB] ++ gl m gsa ++ gl m gsb) w w'

theorem cell_far {b b' : Nat} (h : b ≠ b') (o o' : Nat) (v : Value) (w : World) : (w.setCell ⟨b', o', none⟩ v).cell? ⟨b, o, none⟩ = w.cell? ⟨b, o, none⟩ :=
  World.cell?_of_block (Below.heap_setCell w ⟨b', o', none⟩ v b h)
theorem cell_far_d {b b' : Nat} (h : b ≠ b') (o o' : Nat) (v : Value) (w : World) : (w.setCell ⟨b', o', none⟩ v).drew.cell? ⟨b, o, none⟩ = w.cell? ⟨b, o, none⟩ := cell_far h o o' v w
theorem bv_zero (a : Int) (ha : -9223372036854775808 ≤ a ∧ a ≤ 9223372036854775807) : BitVec.ofInt 64 a = 0#64 ↔ a = 0 := by
  constructor
  · intro h
    have h1 := congrArg BitVec.toInt h
    rw [BitVec.toInt_ofInt] at h1
    simp [Int.bmod] at h1
    omega
  · rintro rfl
    rfl
theorem i64_or_ne (a b : Int) (ha : -9223372036854775808 ≤ a ∧ a ≤ 9223372036854775807) (hb : -9223372036854775808 ≤ b ∧ b ≤ 9223372036854775807) : (bits .or .i64 a b != 0) = (a != 0 || b != 0) := by
  have e : bits .or .i64 a b = (BitVec.ofInt 64 a ||| BitVec.ofInt 64 b).toInt := by
    show IntKind.i64.wrap (((BitVec.ofInt 64 a ||| BitVec.ofInt 64 b).toNat : Nat) : Int) = _
    rw [IntKind.wrap_i64, BitVec.toInt_eq_toNat_bmod, Int.bmod]
    have := (BitVec.ofInt 64 a ||| BitVec.ofInt 64 b).isLt
    simp at this ⊢
    omega
  rw [e]
  have z : ((BitVec.ofInt 64 a ||| BitVec.ofInt 64 b).toInt = 0) ↔ (a = 0 ∧ b = 0) := by
    have e0 : (0#64).toInt = 0 := rfl
    constructor
    · intro h
      have h1 := BitVec.toInt_inj.1 (h.trans e0.symm)
      rw [BitVec.or_eq_zero_iff, bv_zero a ha, bv_zero b hb] at h1
      exact h1
    · rintro ⟨rfl, rfl⟩
      rfl
  generalize (BitVec.ofInt 64 a ||| BitVec.ofInt 64 b).toInt = t at z ⊢
  by_cases ht : t = 0
  · obtain ⟨h1, h2⟩ := z.1 ht
    simp [ht, h1, h2]
  · have hn : ¬ (a = 0 ∧ b = 0) := fun h => ht (z.2 h)
    have e1 : (t != 0) = true := by simp [ht]
    rw [e1]
    by_cases h1 : a = 0
    · have h2 : (b != 0) = true := by simp; exact fun h => hn ⟨h1, h⟩
      simp [h2]
    · have h2 : (a != 0) = true := by simp [h1]
      simp [h2]
theorem i64_and_b2i (x y : Bool) : bits .and .i64 (b2i x) (b2i y) = b2i (x && y) := by
  cases x <;> cases y <;> decide +kernel

theorem rN_zero (d a b : Int) : rN d a 0 b 0 = b2i (if d = 2 then (a != 0 || b != 0) else (a != 0 && b != 0)) := by
  have t0 : ∀ x : Int, x = 0 → tru x 0 = 0 ∧ (x != 0) = false := fun x h => by simp [tru, h]
  have t1 : ∀ x : Int, ¬ x = 0 → tru x 0 = 2 ∧ (x != 0) = true := fun x h => by simp [tru, h]
  unfold rN jn
  by_cases hd : d = 2
  · rw [if_pos hd, if_pos hd]
    by_cases h1 : a = 0 <;> by_cases h2 : b = 0
    · rw [(t0 a h1).1, (t0 a h1).2, (t0 b h2).1, (t0 b h2).2]; rfl
    · rw [(t0 a h1).1, (t0 a h1).2, (t1 b h2).1, (t1 b h2).2]; rfl
    · rw [(t1 a h1).1, (t1 a h1).2, (t0 b h2).1, (t0 b h2).2]; rfl
    · rw [(t1 a h1).1, (t1 a h1).2, (t1 b h2).1, (t1 b h2).2]; rfl
  · rw [if_neg hd, if_neg hd]
    by_cases h1 : a = 0 <;> by_cases h2 : b = 0
    · rw [(t0 a h1).1, (t0 a h1).2, (t0 b h2).1, (t0 b h2).2]; rfl
    · rw [(t0 a h1).1, (t0 a h1).2, (t1 b h2).1, (t1 b h2).2]; rfl
    · rw [(t1 a h1).1, (t1 a h1).2, (t0 b h2).1, (t0 b h2).2]; rfl
    · rw [(t1 a h1).1, (t1 a h1).2, (t1 b h2).1, (t1 b h2).2]; rfl
theorem rN_or (a b : Int) (ha : -9223372036854775808 ≤ a ∧ a ≤ 9223372036854775807) (hb : -9223372036854775808 ≤ b ∧ b ≤ 9223372036854775807) : b2i (bits .or .i64 a b != 0) = rN 2 a 0 b 0 := by
  rw [i64_or_ne a b ha hb, rN_zero, if_pos rfl]
theorem rN_and (d a b : Int) (hd : d ≠ 2) : bits .and .i64 (b2i (a != 0)) (b2i (b != 0)) = rN d a 0 b 0 := by
  rw [i64_and_b2i, rN_zero, if_neg hd]
theorem eff_true (ss : List Int) (k : Nat) : (eff true ss).getD k 0 = 0 := by
  rw [eff, if_pos rfl, List.getD_eq_getElem?_getD, List.getElem?_replicate]
  split <;> rfl

set_option maxRecDepth 100000 in
set_option maxHeartbeats 1000000 in
theorem applyOr (m lB rB oB nB sB gsa gsb : Nat) (pa qa pb qb : Option Addr) (xa sa xb sb : List Int) (xo st : List Int) (op : Bool) (x3 x4 y3 y4 z3 z4 : Value) (w0 w : World)
    (hL : IV w lB pa qa gsa sa true m x3 x4) (hR : IV w rB pb qb gsb sb true m y3 y4) (hO : IV w oB (some ⟨nB, 0, none⟩) (some ⟨sB, 0, none⟩) sB st op m z3 z4) (hN : Sl w (some ⟨nB, 0, none⟩) nB (xo.map (Value.int .i64)) 2) (lo : xo.length = m)
    (hb : Below w0.heap.size w0 w) (ha0 : Src w0 pa (xa.map (Value.int .i64))) (hb0 : Src w0 pb (xb.map (Value.int .i64))) (la : xa.length = m) (lb : xb.length = m)
    (ra : ∀ z ∈ xa, -9223372036854775808 ≤ z ∧ z ≤ 9223372036854775807) (rb : ∀ z ∈ xb, -9223372036854775808 ≤ z ∧ z ≤ 9223372036854775807)
    (hm : m ≤ 65536) (g1 : w0.heap.size ≤ nB) (g2 : nB ≠ oB) (g3 : nB ≠ sB) (g4 : oB ≠ sB) (g5 : nB < w.heap.size) :
    Calls Try.prog 59 #[.agg #[.int .i8 2], .pointer (some ⟨lB, 0, none⟩), .pointer (some ⟨rB, 0, none⟩), .pointer (some ⟨oB, 0, none⟩)] w (ApOut w 2 m oB nB sB gsa gsb xa (eff true sa) xb (eff true sb) true true z3 z4) := by
  have o0 : w.cell? ⟨oB, 0, none⟩ = some (.slice (some ⟨nB, 0, none⟩) m m) := hO.bv.cell rfl
  have o1 : w.cell? ⟨oB, 1, none⟩ = some (.slice (some ⟨sB, 0, none⟩) m m) := hO.bv.cell rfl
  have l0 : w.cell? ⟨lB, 0, none⟩ = some (.slice pa m m) := hL.bv.cell rfl
  have r0 : w.cell? ⟨rB, 0, none⟩ = some (.slice pb m m) := hR.bv.cell rfl
  have l2 : w.cell? ⟨lB, 2, none⟩ = some (.bool true) := hL.bv.cell rfl
  have r2 : w.cell? ⟨rB, 2, none⟩ = some (.bool true) := hR.bv.cell rfl
  have q1 := hO.bv.lt
  have q2 := hL.bv.lt
  have q3 := hR.bv.lt
  go_enter Try.func59, Try.ntmps59
  go_wp2
  go_quiet (fail)
  go_wp2
  go_quiet (fail)
  go_wp2
  clear o0 o1 l0 r0 l2 r2
  go_loopw [125] (fun i wr => ∃ k : Nat, k ≤ m ∧ i = .int .i64 k ∧ Sl wr (some ⟨nB, 0, none⟩) nB (ovr ((NL 2 m xa (eff true sa) xb (eff true sb)).map (Value.int .i64)) (xo.map (Value.int .i64)) k) 2 ∧ Kp [nB] w wr) (fun i _ => m - (intOf i).toNat)
  case atStart =>
    refine ⟨0, Nat.zero_le _, rfl, ?_, ((Kp.refl _ _).alloc _).drewN _⟩
    rw [ovr_zero]
    exact hN.kp (((Kp.refl [] _).alloc _).drewN _) (by simp)
  case round =>
    obtain ⟨k, hk, rfl, hBr, hKr⟩ := hrel
    by_cases hlt : k < m
    · have hbr := hKr.below hb hb.size (by simpa using g1)
      obtain ⟨b1, o1, e1, hb1, hc1⟩ := ha0 (by simp [la]; omega)
      obtain ⟨b2, o2, e2, hb2, hc2⟩ := hb0 (by simp [lb]; omega)
      subst e1 e2
      obtain ⟨a, hak⟩ := getElem?_lt_some xa k (by omega)
      obtain ⟨b, hbk⟩ := getElem?_lt_some xb k (by omega)
      obtain ⟨ov, hov⟩ := getElem?_lt_some xo k (by omega)
      have ra' := ra a (List.mem_of_getElem? hak)
      have rb' := rb b (List.mem_of_getElem? hbk)
      have c1 : wr.cell? ⟨b1, o1 + k, none⟩ = some (.int .i64 a) := (hbr.cell (p := ⟨b1, o1 + k, none⟩) hb1).trans (hc1 _ _ (by simp [hak]))
      have c2 : wr.cell? ⟨b2, o2 + k, none⟩ = some (.int .i64 b) := (hbr.cell (p := ⟨b2, o2 + k, none⟩) hb2).trans (hc2 _ _ (by simp [hbk]))
      have lN : (NL 2 m xa (eff true sa) xb (eff true sb)).length = m := by simp [NL]
      obtain ⟨_, hBn⟩ := hBr (by rw [ovr_len _ _ _ (by simp [lN]; omega) (by simp; omega)]; simp [lo]; omega)
      have c3 : wr.cell? ⟨nB, k, none⟩ = some (.int .i64 ov) := hBn.cell (by rw [ovr_at _ _ _ (by simp [lN]; omega)]; simp [hov])
      have f3 := hBn.frozen k
      have n1 : b1 ≠ nB := by omega
      have n2 : b2 ≠ nB := by omega
      have i1 : (k : Int) < (m : Int) := by omega
      have HE : Hid (b2i (bits .or .i64 a b != 0) = rN 2 a 0 b 0) := rN_or a b ra' rb'
      have HNk : Hid ((NL 2 m xa (eff true sa) xb (eff true sb))[k]? = some (rN 2 a 0 b 0)) := by
        show _ = _
        rw [NL, map_rg _ _ _ hlt, eff_true, eff_true]
        simp [hak, hbk]
      have HB : Hid (Blk wr nB (ovr ((NL 2 m xa (eff true sa) xb (eff true sb)).map (Value.int .i64)) (xo.map (Value.int .i64)) k) 2) := hBn
      have HK : Hid (Kp [nB] w wr) := hKr
      clear hBr hBn hKr hbr hc1 hc2 hak hbk hov ra' rb' ra rb hL hR hO hN lN
      go_wp2
      go_region_held3 (fun w' => w'.cell? ⟨b1, o1 + k, none⟩ = some (.int .i64 a) ∧ w'.cell? ⟨b2, o2 + k, none⟩ = some (.int .i64 b)) (first | exact ⟨(cell_far_d n1 _ _ _ _).trans c1, (cell_far_d n2 _ _ _ _).trans c2⟩ | go_keep) (first | (go_at_call 68; refine (intOf68 _ _).mono ?_; rintro e w' ⟨rfl, rfl⟩))
      all_goals go_wp2
      go_roundw
      case rel =>
        refine ⟨k + 1, by omega, by go_num, ?_, (HK.out.setCell (.inl (by simp)) _).drew⟩
        rw [HE.out, ← ovr_set _ _ _ (.int .i64 (rN 2 a 0 b 0)) (by rw [List.getElem?_map, HNk.out]; rfl) (by simp [lo]; omega)]
        exact fun _ => ⟨rfl, (HB.out.set k _).drew⟩
      case measure => simp [intOf]; omega
    · obtain rfl : k = m := by omega
      have lN : (NL 2 k xa (eff true sa) xb (eff true sb)).length = k := by simp [NL]
      rw [ovr_all _ _ _ (by simp [lN]), List.drop_eq_nil_of_le (by simp [lo]), List.append_nil] at hBr
      have bO := hKr.blk hO.bv (by simpa using g2.symm)
      have bS : Sl wr (some ⟨sB, 0, none⟩) sB (st.map (Value.int .u8)) 86 := hO.bs.kp hKr (by simpa using g3.symm)
      have c2 : wr.cell? ⟨oB, 2, none⟩ = some (.bool op) := bO.cell rfl
      have f2 := bO.frozen 2
      have K1 := (hKr.mono (T := [oB, nB, sB] ++ gl k gsa ++ gl k gsb) (fun i _ h => by simp at h; simp [h])).setCell (p := ⟨oB, 2, none⟩) (.inl (by simp)) (.bool true)
      have K2 : Kp [oB] wr (wr.setCell ⟨oB, 2, none⟩ (.bool true)) := (Kp.refl _ _).setCell (.inl (by simp)) _
      have E1 := bO.set 2 (.bool true)
      have E2 := hBr.kp K2 (by simpa using g2)
      have E3 := bS.kp K2 (by simpa using g4.symm)
      have ls := hO.ls
      have F : Hid (ApOut w 2 k oB nB sB gsa gsb xa (eff true sa) xb (eff true sb) true true z3 z4 (.returned (.tuple #[])) (wr.setCell ⟨oB, 2, none⟩ (.bool true))) :=
        ⟨rfl, E1, E2, ⟨st, ls, E3, fun h => by cases h⟩, K1⟩
      clear E1 E2 E3 K1 K2 bO bS hBr hKr hL hR hO hN ha0 hb0 ra rb
      go_wp2
      go_end0
      exact F.out
set_option maxRecDepth 100000 in
set_option maxHeartbeats 1000000 in
theorem applyAnd (d : Int) (hd : d ≠ 2) (m lB rB oB nB sB gsa gsb : Nat) (pa qa pb qb : Option Addr) (xa sa xb sb : List Int) (xo st : List Int) (op : Bool) (x3 x4 y3 y4 z3 z4 : Value) (w0 w : World)
    (hL : IV w lB pa qa gsa sa true m x3 x4) (hR : IV w rB pb qb gsb sb true m y3 y4) (hO : IV w oB (some ⟨nB, 0, none⟩) (some ⟨sB, 0, none⟩) sB st op m z3 z4) (hN : Sl w (some ⟨nB, 0, none⟩) nB (xo.map (Value.int .i64)) 2) (lo : xo.length = m)
    (hb : Below w0.heap.size w0 w) (ha0 : Src w0 pa (xa.map (Value.int .i64))) (hb0 : Src w0 pb (xb.map (Value.int .i64))) (la : xa.length = m) (lb : xb.length = m)
    (ra : ∀ z ∈ xa, -9223372036854775808 ≤ z ∧ z ≤ 9223372036854775807) (rb : ∀ z ∈ xb, -9223372036854775808 ≤ z ∧ z ≤ 9223372036854775807)
    (hm : m ≤ 65536) (g1 : w0.heap.size ≤ nB) (g2 : nB ≠ oB) (g3 : nB ≠ sB) (g4 : oB ≠ sB) (g5 : nB < w.heap.size) :
    Calls Try.prog 59 #[.agg #[.int .i8 d], .pointer (some ⟨lB, 0, none⟩), .pointer (some ⟨rB, 0, none⟩), .pointer (some ⟨oB, 0, none⟩)] w (ApOut w d m oB nB sB gsa gsb xa (eff true sa) xb (eff true sb) true true z3 z4) := by
  have o0 : w.cell? ⟨oB, 0, none⟩ = some (.slice (some ⟨nB, 0, none⟩) m m) := hO.bv.cell rfl
  have o1 : w.cell? ⟨oB, 1, none⟩ = some (.slice (some ⟨sB, 0, none⟩) m m) := hO.bv.cell rfl
  have l0 : w.cell? ⟨lB, 0, none⟩ = some (.slice pa m m) := hL.bv.cell rfl
  have r0 : w.cell? ⟨rB, 0, none⟩ = some (.slice pb m m) := hR.bv.cell rfl
  have l2 : w.cell? ⟨lB, 2, none⟩ = some (.bool true) := hL.bv.cell rfl
  have r2 : w.cell? ⟨rB, 2, none⟩ = some (.bool true) := hR.bv.cell rfl
  have hd2 : (d == 2) = false := by simp [hd]
  have HD : Hid (d ≠ 2) := hd
  clear hd
  have q1 := hO.bv.lt
  have q2 := hL.bv.lt
  have q3 := hR.bv.lt
  go_enter Try.func59, Try.ntmps59
  go_wp2
  go_quiet (fail)
  go_wp2
  go_quiet (fail)
  go_wp2
  clear o0 o1 l0 r0 l2 r2
  go_loopw [159] (fun i wr => ∃ k : Nat, k ≤ m ∧ i = .int .i64 k ∧ Sl wr (some ⟨nB, 0, none⟩) nB (ovr ((NL d m xa (eff true sa) xb (eff true sb)).map (Value.int .i64)) (xo.map (Value.int .i64)) k) 2 ∧ Kp [nB] w wr) (fun i _ => m - (intOf i).toNat)
  case atStart =>
    refine ⟨0, Nat.zero_le _, rfl, ?_, ((Kp.refl _ _).alloc _).drewN _⟩
    rw [ovr_zero]
    exact hN.kp (((Kp.refl [] _).alloc _).drewN _) (by simp)
  case round =>
    obtain ⟨k, hk, rfl, hBr, hKr⟩ := hrel
    by_cases hlt : k < m
    · have hbr := hKr.below hb hb.size (by simpa using g1)
      obtain ⟨b1, o1, e1, hb1, hc1⟩ := ha0 (by simp [la]; omega)
      obtain ⟨b2, o2, e2, hb2, hc2⟩ := hb0 (by simp [lb]; omega)
      subst e1 e2
      obtain ⟨a, hak⟩ := getElem?_lt_some xa k (by omega)
      obtain ⟨b, hbk⟩ := getElem?_lt_some xb k (by omega)
      obtain ⟨ov, hov⟩ := getElem?_lt_some xo k (by omega)
      have ra' := ra a (List.mem_of_getElem? hak)
      have rb' := rb b (List.mem_of_getElem? hbk)
      have c1 : wr.cell? ⟨b1, o1 + k, none⟩ = some (.int .i64 a) := (hbr.cell (p := ⟨b1, o1 + k, none⟩) hb1).trans (hc1 _ _ (by simp [hak]))
      have c2 : wr.cell? ⟨b2, o2 + k, none⟩ = some (.int .i64 b) := (hbr.cell (p := ⟨b2, o2 + k, none⟩) hb2).trans (hc2 _ _ (by simp [hbk]))
      have lN : (NL d m xa (eff true sa) xb (eff true sb)).length = m := by simp [NL]
      obtain ⟨_, hBn⟩ := hBr (by rw [ovr_len _ _ _ (by simp [lN]; omega) (by simp; omega)]; simp [lo]; omega)
      have c3 : wr.cell? ⟨nB, k, none⟩ = some (.int .i64 ov) := hBn.cell (by rw [ovr_at _ _ _ (by simp [lN]; omega)]; simp [hov])
      have f3 := hBn.frozen k
      have n1 : b1 ≠ nB := by omega
      have n2 : b2 ≠ nB := by omega
      have i1 : (k : Int) < (m : Int) := by omega
      have HE : Hid (bits .and .i64 (b2i (a != 0)) (b2i (b != 0)) = rN d a 0 b 0) := rN_and d a b HD.out
      have HNk : Hid ((NL d m xa (eff true sa) xb (eff true sb))[k]? = some (rN d a 0 b 0)) := by
        show _ = _
        rw [NL, map_rg _ _ _ hlt, eff_true, eff_true]
        simp [hak, hbk]
      have HB : Hid (Blk wr nB (ovr ((NL d m xa (eff true sa) xb (eff true sb)).map (Value.int .i64)) (xo.map (Value.int .i64)) k) 2) := hBn
      have HK : Hid (Kp [nB] w wr) := hKr
      clear hBr hBn hKr hbr hc1 hc2 hak hbk hov ra' rb' ra rb hL hR hO hN lN
      go_wp2
      go_region_held3 (fun w' => w'.cell? ⟨b1, o1 + k, none⟩ = some (.int .i64 a) ∧ w'.cell? ⟨b2, o2 + k, none⟩ = some (.int .i64 b)) (first | exact ⟨(cell_far_d n1 _ _ _ _).trans c1, (cell_far_d n2 _ _ _ _).trans c2⟩ | go_keep) (first | (go_at_call 68; refine (intOf68 _ _).mono ?_; rintro e w' ⟨rfl, rfl⟩))
      all_goals go_wp2
      go_roundw
      case rel =>
        refine ⟨k + 1, by omega, by go_num, ?_, (HK.out.setCell (.inl (by simp)) _).drew⟩
        rw [HE.out, ← ovr_set _ _ _ (.int .i64 (rN d a 0 b 0)) (by rw [List.getElem?_map, HNk.out]; rfl) (by simp [lo]; omega)]
        exact fun _ => ⟨rfl, (HB.out.set k _).drew⟩
      case measure => simp [intOf]; omega
    · obtain rfl : k = m := by omega
      have lN : (NL d k xa (eff true sa) xb (eff true sb)).length = k := by simp [NL]
      rw [ovr_all _ _ _ (by simp [lN]), List.drop_eq_nil_of_le (by simp [lo]), List.append_nil] at hBr
      have bO := hKr.blk hO.bv (by simpa using g2.symm)
      have bS : Sl wr (some ⟨sB, 0, none⟩) sB (st.map (Value.int .u8)) 86 := hO.bs.kp hKr (by simpa using g3.symm)
      have c2 : wr.cell? ⟨oB, 2, none⟩ = some (.bool op) := bO.cell rfl
      have f2 := bO.frozen 2
      have K1 := (hKr.mono (T := [oB, nB, sB] ++ gl k gsa ++ gl k gsb) (fun i _ h => by simp at h; simp [h])).setCell (p := ⟨oB, 2, none⟩) (.inl (by simp)) (.bool true)
      have K2 : Kp [oB] wr (wr.setCell ⟨oB, 2, none⟩ (.bool true)) := (Kp.refl _ _).setCell (.inl (by simp)) _
      have E1 := bO.set 2 (.bool true)
      have E2 := hBr.kp K2 (by simpa using g2)
      have E3 := bS.kp K2 (by simpa using g4.symm)
      have ls := hO.ls
      have F : Hid (ApOut w d k oB nB sB gsa gsb xa (eff true sa) xb (eff true sb) true true z3 z4 (.returned (.tuple #[])) (wr.setCell ⟨oB, 2, none⟩ (.bool true))) :=
        ⟨rfl, E1, E2, ⟨st, ls, E3, fun h => by cases h⟩, K1⟩
      clear E1 E2 E3 K1 K2 bO bS hBr hKr hL hR hO hN ha0 hb0 ra rb
      go_wp2
      go_end0
      exact F.out
end Go.Proofs.Qxb6001672a
