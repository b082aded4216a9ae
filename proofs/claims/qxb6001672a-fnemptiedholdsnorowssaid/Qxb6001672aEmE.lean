/-
  FnEmptiedHoldsNoRows (8): the found columns are added and found (region 20 on).
-/
import Derived.Test.Qxb6001672aEmD
set_option linter.unusedSimpArgs false
set_option linter.unusedVariables false
namespace Go.Proofs.Qxb6001672a
open Go.RowKit

theorem Rm.kp {S : List Nat} {w w' : World} {e : TypeId} {a c : Nat} (h : Rm w e (some ⟨a, 0, none⟩) c) (k : Kp S w w') (ha : a ∉ S) : Rm w' e (some ⟨a, 0, none⟩) c := fun h0 h1 => by
  obtain ⟨g, xs, hp, hb, hl⟩ := h h0 h1
  cases hp
  exact ⟨a, xs, rfl, k.blk hb ha, hl⟩
theorem Rm.below {B : Nat} {w w' : World} {e : TypeId} {a c : Nat} (h : Rm w e (some ⟨a, 0, none⟩) c) (k : Below B w w') (ha : a < B) : Rm w' e (some ⟨a, 0, none⟩) c := fun h0 h1 => by
  obtain ⟨g, xs, hp, hb, hl⟩ := h h0 h1
  cases hp
  exact ⟨a, xs, rfl, by unfold Blk at hb ⊢; rw [k.block a ha]; exact hb, hl⟩
theorem Rm.of_blk {w : World} {e : TypeId} {a : Nat} {xs : List Value} (h : Blk w a xs e) : Rm w e (some ⟨a, 0, none⟩) xs.length := fun _ _ => ⟨a, xs, rfl, h, rfl⟩

/-- The found column j in the row xs. -/
def CX (xs : List Value) (w : World) (base : Nat) (v : Value) (fa : List Int) (j : Nat) : Prop :=
  ∃ a b d x, fa[j]? = some x ∧ xs[j * 5]? = some (.int .i64 x) ∧ xs[j * 5 + 1]? = some (.slice (some ⟨a, 0, none⟩) 1 1) ∧ xs[j * 5 + 2]? = some (.slice (some ⟨b, 0, none⟩) 1 1) ∧ xs[j * 5 + 3]? = some (.slice (some ⟨d, 0, none⟩) 1 1) ∧
    (base ≤ a ∧ a < w.heap.size ∧ v.ownBlock ≠ some a) ∧ (base ≤ b ∧ b < w.heap.size ∧ v.ownBlock ≠ some b) ∧ (base ≤ d ∧ d < w.heap.size ∧ v.ownBlock ≠ some d) ∧
    Rm w 2 (some ⟨a, 0, none⟩) 1 ∧ Rm w 9 (some ⟨b, 0, none⟩) 1 ∧ Rm w 4 (some ⟨d, 0, none⟩) 1
/-- What the loop that adds the found columns keeps. -/
structure FI (u1 : World) (rB base : Nat) (lp wd tx rm : Value) (fa : List Int) (wr : World) (k : Nat) (v : Value) (xs : List Value) : Prop where
  r : Blk wr rB [lp, wd, tx, rm, v] 67
  o : wr.ownsRow base 102 5 v k xs
  kp : Kp [rB] u1 wr
  bs : base ≤ wr.heap.size
  rb : rB < base
  ub : u1.heap.size ≤ base
  cx : ∀ j, j < k → CX xs wr base v fa j

/-- The world with the three lists of one item. -/
def three (w : World) : World := ((w.alloc (.cells #[.int .i64 1] 2)).alloc (.cells #[.string { data := #[115] }] 9)).alloc (.cells #[.bool true] 4)
theorem three_facts (w : World) : Kp [] w (three w) ∧ (three w).heap.size = w.heap.size + 3 ∧ Blk (three w) w.heap.size [.int .i64 1] 2 ∧ Blk (three w) (w.heap.size + 1) [.string { data := #[115] }] 9 ∧ Blk (three w) (w.heap.size + 1 + 1) [.bool true] 4 := by
  refine ⟨(((Kp.refl _ _).alloc _).alloc _).alloc _, by simp [three], ?_, ?_, ?_⟩
  · exact (((Kp.refl [] _).alloc _).alloc _).blk (Blk.new w #[.int .i64 1] 2) (by simp)
  · have b0 := Blk.new (w.alloc (.cells #[.int .i64 1] 2)) #[.string { data := #[115] }] 9
    simp at b0
    exact ((Kp.refl [] _).alloc _).blk b0 (by simp)
  · have b0 := Blk.new ((w.alloc (.cells #[.int .i64 1] 2)).alloc (.cells #[.string { data := #[115] }] 9)) #[.bool true] 4
    simp at b0
    exact b0

theorem FI.step {u1 : World} {rB base : Nat} {lp wd tx rm : Value} {fa : List Int} {wr : World} {k : Nat} {v : Value} {xs : List Value} (h : FI u1 rB base lp wd tx rm fa wr k v xs) {x : Int} (hx : fa[k]? = some x) {e : Ending} {w' : World}
    (ha : Added (three wr) rB base k lp wd tx rm v xs [.int .i64 x, .slice (some ⟨wr.heap.size, 0, none⟩) 1 1, .slice (some ⟨wr.heap.size + 1, 0, none⟩) 1 1, .slice (some ⟨wr.heap.size + 1 + 1, 0, none⟩) 1 1, .bool true] e w') :
    e = .returned (.tuple #[]) ∧ ∃ v' xs', FI u1 rB base lp wd tx rm fa w' (k + 1) v' xs' := by
  obtain ⟨rfl, g, cap, h1, h2, h3, h4⟩ := ha
  obtain ⟨t1, t2, t3, t4, t5⟩ := three_facts wr
  have hlen : xs.length = k * 5 := h.o.1
  have hvl : ∀ q, v.ownBlock = some q → base ≤ q ∧ q < wr.heap.size := h.o.lt
  have hs := h4.size
  have hgn : ∀ q, q < wr.heap.size + 3 → v.ownBlock ≠ some q → g ≠ q := fun q hq hv hgq => by
    rcases h3 with h3 | h3
    · exact hv (hgq ▸ h3)
    · omega
  have hS : ∀ q, base ≤ q → v.ownBlock ≠ some q → q ∉ rB :: v.ownBlock.toList := fun q hq hv hm => by
    rcases List.mem_cons.1 hm with e | e
    · have := h.rb; omega
    · exact hv (by simpa using e)
  have hvn : ∀ q, wr.heap.size ≤ q → v.ownBlock ≠ some q := fun q hq e => by have := hvl q e; omega
  have hbs := h.bs
  refine ⟨rfl, .slice (some ⟨g, 0, none⟩) (k + 1) cap, _, ⟨h1, h2, ?_, by omega, h.rb, h.ub, fun j hj => ?_⟩⟩
  · refine (h.kp.trans (t1.mono (by simp))).then h4 (fun i hi => ?_)
    rcases List.mem_cons.1 hi with e | e
    · exact .inl (by simp [e])
    · have := hvl i (by simpa using e)
      have := h.ub
      exact .inr (by omega)
  · by_cases hjk : j < k
    · obtain ⟨a, b, d, y, c0, c1, c2, c3, c4, d1, d2, d3, r1, r2, r3⟩ := h.cx j hjk
      refine ⟨a, b, d, y, c0, ?_, ?_, ?_, ?_, ⟨d1.1, by omega, ?_⟩, ⟨d2.1, by omega, ?_⟩, ⟨d3.1, by omega, ?_⟩, (r1.shp (Shp.keep t1)).kp h4 (hS a d1.1 d1.2.2), (r2.shp (Shp.keep t1)).kp h4 (hS b d2.1 d2.2.2), (r3.shp (Shp.keep t1)).kp h4 (hS d d3.1 d3.2.2)⟩
      · rw [List.getElem?_append_left (by omega)]; exact c1
      · rw [List.getElem?_append_left (by omega)]; exact c2
      · rw [List.getElem?_append_left (by omega)]; exact c3
      · rw [List.getElem?_append_left (by omega)]; exact c4
      · simp [Value.ownBlock]; exact hgn a (by omega) d1.2.2
      · simp [Value.ownBlock]; exact hgn b (by omega) d2.2.2
      · simp [Value.ownBlock]; exact hgn d (by omega) d3.2.2
    · obtain rfl : j = k := by omega
      refine ⟨wr.heap.size, wr.heap.size + 1, wr.heap.size + 1 + 1, x, hx, ?_, ?_, ?_, ?_, ⟨by omega, by omega, ?_⟩, ⟨by omega, by omega, ?_⟩, ⟨by omega, by omega, ?_⟩, (Rm.of_blk t3).kp h4 (hS _ (by omega) (hvn _ (by omega))), (Rm.of_blk t4).kp h4 (hS _ (by omega) (hvn _ (by omega))), (Rm.of_blk t5).kp h4 (hS _ (by omega) (hvn _ (by omega)))⟩
      · rw [List.getElem?_append_right (by omega), hlen]; simp
      · rw [List.getElem?_append_right (by omega), hlen]; simp
      · rw [List.getElem?_append_right (by omega), hlen]; simp
      · rw [List.getElem?_append_right (by omega), hlen]; simp
      · simp [Value.ownBlock]; exact hgn _ (by omega) (hvn _ (by omega))
      · simp [Value.ownBlock]; exact hgn _ (by omega) (hvn _ (by omega))
      · simp [Value.ownBlock]; exact hgn _ (by omega) (hvn _ (by omega))

theorem foundAt_some (fB : Nat) (c : Int) (cols : List Int) (h : c ∈ cols) : ∀ i, ∃ a, foundAt fB c i cols = some a := by
  induction cols with
  | nil => simp at h
  | cons x r ih =>
    intro i
    unfold foundAt
    by_cases hx : x = c
    · simp [hx]
    · have : c ∈ r := by
        rcases List.mem_cons.1 h with e | e
        · exact absurd e.symm hx
        · exact e
      simp [hx]
      exact ih this (i + 1)
theorem foundAt_none (fB : Nat) (c : Int) (cols : List Int) (h : ¬ c ∈ cols) (i : Nat) : foundAt fB c i cols = none :=
  foundAt_miss fB c cols i fun j hj e => h (List.mem_of_getElem? e)

/-- The batch with its found columns: it may be emptied, and they are found. -/
theorem FI.ro {u u1 : World} {rB base wB tB mB n1 m B : Nat} {lp : Value} {fa : List Int} {wr : World} {n : Nat} {v : Value} {xs : List Value}
    (h : FI u1 rB base lp (.slice (some ⟨wB, 0, none⟩) n1 n1) (.slice (some ⟨tB, 0, none⟩) n1 n1) (.slice (some ⟨mB, 0, none⟩) m m) fa wr n v xs)
    (hb : Below u.heap.size u u1) (hBu : B ≤ u.heap.size) (b1 : B ≤ wB ∧ wB < u.heap.size) (b2 : B ≤ tB ∧ tB < u.heap.size) (b3 : B ≤ mB ∧ mB < u.heap.size) (hr : u.heap.size ≤ rB)
    (m1 : Rm u 53 (some ⟨wB, 0, none⟩) n1) (m2 : Rm u 48 (some ⟨tB, 0, none⟩) n1) (m3 : Rm u 9 (some ⟨mB, 0, none⟩) m) (l1 : n1 ≤ 200) (l2 : m ≤ 200) (hn : n ≤ 1024) (hfa : fa.length = n) :
    ∃ pf cf g, v = .slice pf n cf ∧ RO wr B wr.heap.size rB g n n1 n1 m n1 n1 m cf lp (some ⟨wB, 0, none⟩) (some ⟨tB, 0, none⟩) (some ⟨mB, 0, none⟩) pf ∧
      ∀ i x, fa[i]? = some x → pf = some ⟨g, 0, none⟩ ∧ wr.cell? ⟨g, i * 5, none⟩ = some (.int .i64 x) := by
  have hsz : u.heap.size ≤ wr.heap.size := Nat.le_trans hb.size h.kp.size
  have hrb := h.rb
  have hbs := h.bs
  have M1 := (m1.below hb b1.2).kp h.kp (by simp; omega)
  have M2 := (m2.below hb b2.2).kp h.kp (by simp; omega)
  have M3 := (m3.below hb b3.2).kp h.kp (by simp; omega)
  have hub := h.ub
  have hr1 := hb.size
  rcases h.o.2 with ⟨rfl, rfl⟩ | ⟨g, cap, cur, rfl, hbg, hcur, hnc, hcm, hcs, htk⟩
  · refine ⟨none, 0, 0, rfl, ⟨h.r, by omega, Nat.le_refl _, M1, M2, M3, fun a ha => ?_, fun a ha => ?_, fun a ha => ?_, (fun h => by cases h), (fun h => by cases h), (fun h => by cases h), Nat.le_refl _, Nat.le_refl _, Nat.le_refl _, Nat.le_refl _, by omega, by omega, by omega, by omega, fun _ => rfl, fun h0 => by omega⟩, fun i x hx => ?_⟩
    · cases ha; exact ⟨b1.1, by show wB < _; omega, by show wB ≠ _; omega⟩
    · cases ha; exact ⟨b2.1, by show tB < _; omega, by show tB ≠ _; omega⟩
    · cases ha; exact ⟨b3.1, by show mB < _; omega, by show mB ≠ _; omega⟩
    · have := (List.getElem?_eq_some_iff.1 hx).1
      omega
  · have hC : Blk wr g cur.toList 102 := hcur
    have hgl := hC.lt
    have hat : ∀ i y, xs[i]? = some y → cur.toList[i]? = some y := fun i y hy => by
      have hy' := hy
      rw [← htk, List.getElem?_take] at hy'
      split at hy'
      · exact hy'
      · cases hy'
    have hlen : cur.toList.length = cap * 5 := by simpa using hcs
    refine ⟨_, _, g, rfl, ⟨h.r, by omega, Nat.le_refl _, M1, M2, M3, fun a ha => ?_, fun a ha => ?_, fun a ha => ?_, (fun h => by cases h), (fun h => by cases h), (fun h => by cases h), Nat.le_refl _, Nat.le_refl _, Nat.le_refl _, hnc, by omega, by omega, by omega, by omega, (fun h => by cases h), fun h0 => ⟨rfl, by omega, hgl, by omega, cur.toList, hC, by rw [hlen]; omega, fun i hi => ?_⟩⟩, fun i x hx => ⟨rfl, ?_⟩⟩
    · cases ha; exact ⟨b1.1, by show wB < _; omega, by show wB ≠ _; omega⟩
    · cases ha; exact ⟨b2.1, by show tB < _; omega, by show tB ≠ _; omega⟩
    · cases ha; exact ⟨b3.1, by show mB < _; omega, by show mB ≠ _; omega⟩
    · obtain ⟨a, b, d, y, c0, c1, c2, c3, c4, d1, d2, d3, r1, r2, r3⟩ := h.cx i hi
      refine ⟨a, b, d, hat _ _ c2, hat _ _ c3, hat _ _ c4, ⟨by omega, d1.2.1, ?_, by omega⟩, ⟨by omega, d2.2.1, ?_, by omega⟩, ⟨by omega, d3.2.1, ?_, by omega⟩, r1, r2, r3⟩
      · intro e; exact d1.2.2 (by simp [Value.ownBlock, e])
      · intro e; exact d2.2.2 (by simp [Value.ownBlock, e])
      · intro e; exact d3.2.2 (by simp [Value.ownBlock, e])
    · have hi : i < n := by have := (List.getElem?_eq_some_iff.1 hx).1; omega
      obtain ⟨a, b, d, y, c0, c1, _⟩ := h.cx i hi
      rw [hx] at c0
      cases c0
      exact hC.cell (hat _ _ c1)
end Go.Proofs.Qxb6001672a
