/-
  Weakest covering: the deep copy of the matrix (16).
-/
import Derived.Test.Qxb6601372aWcB
set_option linter.unusedSimpArgs false
set_option linter.unusedVariables false
namespace Go.Proofs.Qxb6601372a
open Go.RowKit

/-- What the copy hands back: a matrix of its own. -/
def CLO (w : World) (n : Nat) (B : Nat → Nat → Bool) (e : Ending) (w' : World) : Prop :=
  Kp [] w w' ∧ ∃ g A, e = .returned (.slice (some ⟨g, 0, none⟩) n n) ∧ Grid w' (some ⟨g, 0, none⟩) n A (fun _ => n) (fun _ => n) B

def rowP (n : Nat) (x : Nat) : Value := .slice (some ⟨x, 0, none⟩) n n
def bits (n : Nat) (B : Nat → Nat → Bool) (r : Nat) : List Value := (List.range n).map (bitV B r)
theorem bits_len (n : Nat) (B : Nat → Nat → Bool) (r : Nat) : (bits n B r).length = n := by simp [bits]
theorem bits_at (n : Nat) (B : Nat → Nat → Bool) (r c : Nat) (h : c < n) : (bits n B r)[c]? = some (.bool (B r c)) := by simp [bits, h, bitV]

/-- The rows that are laid: xs their blocks. -/
def Laid (w w' : World) (g n : Nat) (B : Nat → Nat → Bool) (xs : List Nat) : Prop :=
  Kp [] w w' ∧ w.heap.size ≤ g ∧ Blk w' g (xs.map (rowP n) ++ List.replicate (n - xs.length) (.slice none 0 0)) 47 ∧ xs.length ≤ n ∧ ∀ r x, xs[r]? = some x → Blk w' x (bits n B r) 4 ∧ x ≠ g ∧ w.heap.size ≤ x

theorem Laid.grid {w w' : World} {g n : Nat} {B : Nat → Nat → Bool} {xs : List Nat} (h : Laid w w' g n B xs) (hl : xs.length = n) : Grid w' (some ⟨g, 0, none⟩) n (fun r => some ⟨xs.getD r 0, 0, none⟩) (fun _ => n) (fun _ => n) B := by
  obtain ⟨_, _, hB, _, hr⟩ := h
  rw [hl, Nat.sub_self, List.replicate_zero, List.append_nil] at hB
  have e : xs.map (rowP n) = (List.range n).map (rowV (fun r => some ⟨xs.getD r 0, 0, none⟩) (fun _ => n) (fun _ => n)) := by
    apply List.ext_getElem?
    intro i
    by_cases hi : i < n
    · simp [hi, rowV, rowP, List.getElem?_eq_getElem (show i < xs.length by omega)]
    · rw [List.getElem?_eq_none (by simp; omega), List.getElem?_eq_none (by simp; omega)]
  refine ⟨e ▸ hB.src, fun r hrn => ?_⟩
  have hg : xs[r]? = some xs[r] := List.getElem?_eq_getElem (by omega)
  have := (hr r _ hg).1.src
  simpa [List.getD, hg, bits] using this

theorem Laid.step {w u v : World} {g n x : Nat} {B : Nat → Nat → Bool} {xs : List Nat} (h : Laid w u g n B xs) (hl : xs.length < n) (k : Kp [] u v) (hx : u.heap.size ≤ x) (hB : Blk v x (bits n B xs.length) 4) :
    Laid w (v.setCell ⟨g, xs.length, none⟩ (rowP n x)) g n B (xs ++ [x]) := by
  obtain ⟨h1, h2, h3, h4, h5⟩ := h
  have hgu := h3.lt
  have hgx : x ≠ g := by omega
  have kk : Kp [] w v := h1.trans k
  refine ⟨kk.setCell (.inr h2) _, h2, ?_, by simp; omega, fun r y hy => ?_⟩
  · have := (k.blk h3 (by simp)).set xs.length (rowP n x)
    rw [List.set_append, if_neg (by simp), List.length_map, Nat.sub_self] at this
    obtain ⟨m, hm⟩ : ∃ m, n - xs.length = m + 1 := ⟨n - xs.length - 1, by omega⟩
    rw [hm, List.replicate_succ, List.set_cons_zero] at this
    simp only [List.map_append, List.length_append, List.map_cons, List.map_nil, List.append_assoc, List.singleton_append, List.length_cons, List.length_nil]
    rw [show n - (xs.length + (0 + 1)) = m by omega]
    exact this
  · have st : ∀ {z : Nat} {ys : List Value}, z ≠ g → Blk v z ys 4 → Blk (v.setCell ⟨g, xs.length, none⟩ (rowP n x)) z ys 4 := fun {z ys} hz hb => ((Kp.refl [g] v).setCell (p := ⟨g, xs.length, none⟩) (.inl (by simp)) _).blk hb (by simp [hz])
    by_cases hr : r < xs.length
    · rw [List.getElem?_append_left hr] at hy
      have := h5 r y hy
      exact ⟨st this.2.1 (k.blk this.1 (by simp)), this.2⟩
    · have hr' : r = xs.length := by
        have := (List.getElem?_eq_some_iff.1 hy).1
        simp at this
        omega
      subst hr'
      simp at hy
      subst hy
      have := h1.size
      exact ⟨st hgx hB, hgx, by omega⟩

theorem info4s : (Try.prog.info? 4).map (fun i => (i.zero, i.size, i.bytes)) = some (some (.bool false), 1, 1) := by kernel_rfl
theorem info47 : (Try.prog.info? 47).map (fun i => (i.zero, i.size, i.bytes)) = some (some (.slice none 0 0), 1, 24) := by kernel_rfl

set_option maxRecDepth 100000 in
set_option maxHeartbeats 1000000 in
theorem clone16 (p : Option Addr) (n c : Nat) (A : Nat → Option Addr) (C : Nat → Nat) (B : Nat → Nat → Bool) (w : World) (h : Grid w p n A (fun _ => n) C B) (hn : n ≤ 127) (h0 : 0 < n) :
    Calls Try.prog 16 #[.slice p n c] w (CLO w n B) := by
  have H := hide h
  obtain ⟨pb, po, rfl, _⟩ := h.row h0
  clear h
  have hnil : ∀ w, (binOp .eql 24 (.slice (some ⟨pb, po, none⟩) n c) (.slice none 0 0)).run Try.prog w = .ok (.bool false) w := fun w => by
    rw [Lib.run_eql_slice_nil w 24 47 _ _ _ _ _ Try.underlying24]; rfl
  have hmk := fun w => run_make_row' (P := Try.prog) 24 47 (.slice none 0 0) 24 Try.underlying24 info47 rfl .i64 .i64 n (by omega) (by omega) w
  have hmr := fun w => run_make_row' (P := Try.prog) 47 4 (.bool false) 1 Try.underlying47 info4s rfl .i64 .i64 n (by omega) (by omega) w
  have L0 : Laid w (w.alloc (.cells (madeCells #[.slice none 0 0] n) 47)) w.heap.size n B [] := by
    refine ⟨(Kp.refl _ _).alloc _, Nat.le_refl _, ?_, Nat.zero_le _, fun r x h => by simp at h⟩
    have := Blk.new w (madeCells #[.slice none 0 0] n) 47
    rw [made_list] at this
    simpa using this
  have L0 := hide L0
  go_enter Try.func16, Try.ntmps16
  go_wp2
  go_loopw [4] (fun i wr => ∃ xs : List Nat, i = .int .i64 xs.length ∧ Laid w wr w.heap.size n B xs) (fun i _ => n - (intOf i).toNat)
  case atStart => exact ⟨[], rfl, unhide L0⟩
  case round =>
    obtain ⟨v, hv⟩ : ∃ v, v = wr := ⟨_, rfl⟩
    subst hv
    obtain ⟨xs, rfl, hL⟩ := hrel
    obtain ⟨k, hk⟩ : ∃ k, k = xs.length := ⟨_, rfl⟩
    rw [← hk]
    have hkn : k ≤ n := by rw [hk]; exact hL.2.2.2.1
    have HK := hide hk
    have HL := hide hL
    clear hL hk
    by_cases hlt : k < n
    · obtain ⟨b1, o1, e1, hb1⟩ := ((unhide H).keep (unhide HL).1).bit (r := k) hlt h0
      obtain ⟨pb', po', e', hrow⟩ := ((unhide H).keep (unhide HL).1).row h0
      cases e'
      have c1 : v.cell? ⟨pb, po + k, none⟩ = some (.slice (some ⟨b1, o1, none⟩) n (C k)) := by rw [hrow k hlt, e1]
      have l1 : pb < v.heap.size := block_lt_of_cell c1
      have l2 : b1 < v.heap.size := block_lt_of_cell (hb1 0 h0)
      have hb2 : ∀ j, j < n → v.cell? ⟨b1, o1 + j, none⟩ = some (.bool (B k j)) := hb1
      have HB := hide hb2
      have i1 : (k : Int) < (n : Int) := by omega
      have hnr : ∀ w, (binOp .eql 47 (.slice (some ⟨b1, o1, none⟩) n (C k)) (.slice none 0 0)).run Try.prog w = .ok (.bool false) w := fun w => by
        rw [Lib.run_eql_slice_nil w 47 4 _ _ _ _ _ Try.underlying47]; rfl
      have b0 : Blk (v.alloc (.cells (madeCells #[.bool false] n) 4)) v.heap.size (fill (bits n B k) (.bool false) 0) 4 := by
        have := Blk.new v (madeCells #[.bool false] n) 4
        rw [made_list] at this
        rw [fill_zero, bits_len]
        exact this
      have B0 := hide b0
      have hc0 : (v.alloc (.cells (madeCells #[.bool false] n) 4)).cell? ⟨pb, po + k, none⟩ = some (.slice (some ⟨b1, o1, none⟩) n (C k)) := (((Kp.refl [] v).alloc _).cell (p := ⟨pb, po + k, none⟩) l1 (by simp)).trans c1
      clear hb1 hb2 hrow b0 e1
      go_wp2
      obtain ⟨u, hu⟩ : ∃ u, u = v.alloc (.cells (madeCells #[.bool false] n) 4) := ⟨_, rfl⟩
      rw [← hu] at B0 hc0
      rw [← hu]
      have KU : Hid (Kp [] v u) := by rw [hu]; exact (Kp.refl _ _).alloc _
      clear hu
      go_loopw [6] (fun j wj => ∃ m : Nat, m ≤ n ∧ j = .int .i64 m ∧ Blk wj v.heap.size (fill (bits n B k) (.bool false) m) 4 ∧ Kp [v.heap.size] u wj) (fun j _ => n - (intOf j).toNat)
      case atStart => exact ⟨0, Nat.zero_le _, rfl, unhide B0, Kp.refl _ _⟩
      case round =>
        obtain ⟨m, hm, rfl, hB, hK⟩ := hrel
        by_cases hml : m < n
        · have d1 : wr.cell? ⟨pb, po + k, none⟩ = some (.slice (some ⟨b1, o1, none⟩) n (C k)) := (hK.cell (p := ⟨pb, po + k, none⟩) (Nat.lt_of_lt_of_le l1 (unhide KU).size) (by simp; omega)).trans hc0
          have d2 : wr.cell? ⟨b1, o1 + m, none⟩ = some (.bool (B k m)) :=
            (hK.cell (p := ⟨b1, o1 + m, none⟩) (Nat.lt_of_lt_of_le l2 (unhide KU).size) (by simp; omega)).trans (((unhide KU).cell (p := ⟨b1, o1 + m, none⟩) l2 (by simp)).trans ((unhide HB) m hml))
          have d3 : wr.cell? ⟨v.heap.size, m, none⟩ = some (.bool false) := hB.cell (fill_at _ _ _ (by rw [bits_len]; exact hml))
          have fz := hB.frozen m
          have i2 : (m : Int) < (n : Int) := by omega
          have HBk := hide hB
          have HKk := hide hK
          clear hB hK
          go_wp2
          go_roundw
          case rel =>
            refine ⟨m + 1, by omega, by go_num, ?_, (unhide HKk).setCell (.inl (by simp)) _⟩
            have := (unhide HBk).set m (.bool (B k m))
            rwa [fill_set _ _ _ _ (bits_at n B k m hml)] at this
          case measure => simp [intOf]; omega
        · obtain rfl : m = n := by omega
          rw [fill_all _ _ _ (by rw [bits_len]; exact Nat.le_refl _)] at hB
          have kk : Kp [] v wr := (unhide KU).then hK (fun i hi => by simp at hi; right; omega)
          have ST : Hid (Laid w (wr.setCell ⟨w.heap.size, k, none⟩ (rowP m v.heap.size)) w.heap.size m B (xs ++ [v.heap.size])) := by
            have := unhide HK
            subst this
            exact (unhide HL).step hlt kk (Nat.le_refl _) hB
          have bg := kk.blk (unhide HL).2.2.1 (by simp)
          have fz := bg.frozen k
          have cg : wr.cell? ⟨w.heap.size, k, none⟩ = some (.slice none 0 0) := bg.cell (by
            have := unhide HK
            rw [List.getElem?_append_right (by simp; omega), List.getElem?_replicate, if_pos (by simp; omega)])
          clear hB hK kk bg
          go_wp2
          go_roundw
          case rel => exact ⟨xs ++ [v.heap.size], by simp [← unhide HK], unhide ST⟩
          case measure => simp [intOf]; omega
    · have G := hide ((unhide HL).grid (by have := unhide HK; omega))
      go_wp2
      go_ret
      exact ⟨(unhide HL).1, _, _, rfl, unhide G⟩
end Go.Proofs.Qxb6601372a
