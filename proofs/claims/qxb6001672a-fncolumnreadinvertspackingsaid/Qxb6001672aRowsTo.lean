/-
  The loop that packs the rows: what holds behind k rows, behind j columns of one row; each step as a law outside the walk.
-/
import Derived.Test.Qxb6001672aPacked
set_option linter.unusedSimpArgs false
set_option linter.unusedVariables false
namespace Go.Proofs.Qxb6001672a
open Go.RowKit

def rowSl (B p : Nat) (i : Nat) : Value := .slice (some ⟨B + 2 + 2 * i, 0, none⟩) p p
def txtSl (B p : Nat) (i : Nat) : Value := .slice (some ⟨B + 2 + 2 * i + 1, 0, none⟩) p p

structure RowsTo (w wr : World) (m nC c nI ps pr : Nat) (tx : List Bool) (cs : List Int) (ss : List ByteArray) (nu : List Bool) (k : Nat) : Prop where
  size : wr.heap.size = w.heap.size + 2 + 2 * k
  bel : Below w.heap.size w wr
  rws : Blk wr w.heap.size (fill ((List.range m).map (rowSl w.heap.size pr)) (.slice none 0 0) k) 53
  txs : Blk wr (w.heap.size + 1) (fill ((List.range m).map (txtSl w.heap.size ps)) (.slice none 0 0) k) 48
  rows : ∀ i, i < k → ∃ W : List Int, Blk wr (w.heap.size + 2 + 2 * i) (W.map (Value.int .u64)) 54 ∧ WordsOk tx nI pr c (nuAt nu nC c i) (cs.getD (i * nC + c) 0) nC W
  strs : ∀ i, i < k → ∃ T : List ByteArray, Blk wr (w.heap.size + 2 + 2 * i + 1) (T.map Value.string) 9 ∧ StrsOk tx ps c (nuAt nu nC c i) (ss.getD (i * nC + c) ByteArray.empty) nC T

structure RowAt (wr v : World) (c nI ps pr : Nat) (tx : List Bool) (isN : Bool) (z : Int) (s : ByteArray) (j : Nat) : Prop where
  size : v.heap.size = wr.heap.size + 2
  kp : Kp [] wr v
  words : ∃ W : List Int, Blk v wr.heap.size (W.map (Value.int .u64)) 54 ∧ WordsOk tx nI pr c isN z j W
  strs : ∃ T : List ByteArray, Blk v (wr.heap.size + 1) (T.map Value.string) 9 ∧ StrsOk tx ps c isN s j T

theorem rowsTo_start (w : World) (m nC c nI ps pr : Nat) (tx : List Bool) (cs : List Int) (ss : List ByteArray) (nu : List Bool) :
    RowsTo w ((w.alloc (.cells (madeCells #[.slice none 0 0] m) 53)).alloc (.cells (madeCells #[.slice none 0 0] m) 48)) m nC c nI ps pr tx cs ss nu 0 := by
  obtain ⟨b1, b2, b3⟩ := two_alloc w (madeCells #[.slice none 0 0] m) (madeCells #[.slice none 0 0] m) 53 48
  rw [made_list] at b1 b2
  exact ⟨by simp, b3, by rw [fill_zero]; simpa using b1, by rw [fill_zero]; simpa using b2, fun i hi => by omega, fun i hi => by omega⟩

theorem rowAt_start (wr : World) (c nI ps pr : Nat) (tx : List Bool) (isN : Bool) (z : Int) (s : ByteArray) (h1 : tx[c]? = some false → slotOf tx c < pr) (h2 : tx[c]? = some true → slotOf tx c < ps) :
    RowAt wr ((wr.alloc (.cells (madeCells #[.int .u64 0] pr) 54)).alloc (.cells (madeCells #[.string ByteArray.empty] ps) 9)) c nI ps pr tx isN z s 0 := by
  obtain ⟨b1, b2, b3⟩ := two_alloc wr (madeCells #[.int .u64 0] pr) (madeCells #[.string ByteArray.empty] ps) 54 9
  rw [made_list] at b1 b2
  exact ⟨by simp, Below.kp b3, ⟨_, by simpa using b1, WordsOk.start tx nI pr c isN z h1⟩, ⟨_, by simpa using b2, StrsOk.start tx ps c isN s h2⟩⟩

theorem RowAt.null {wr v : World} {c nI ps pr : Nat} {tx : List Bool} {isN : Bool} {z : Int} {s : ByteArray} {j : Nat} (h : RowAt wr v c nI ps pr tx isN z s j) (W : List Int) (hB : Blk v wr.heap.size (W.map (Value.int .u64)) 54)
    (hW : WordsOk tx nI pr c isN z j W) (x : Nat) (hx : W[nI + j / 64]? = some (x : Int)) (hlt : x < 18446744073709551616) (hI : tx[c]? = some false → slotOf tx c < nI) (hc : c = j → isN = true) :
    RowAt wr (v.setCell ⟨wr.heap.size, nI + j / 64, none⟩ (.int .u64 (bits .or .u64 (x : Int) (IntKind.u64.wrap (2 ^ (j % 64)))))) c nI ps pr tx isN z s (j + 1) := by
  obtain ⟨T, hT, hTs⟩ := h.strs
  refine ⟨by simpa [World.setCell] using h.size, h.kp.setCell (.inr (Nat.le_refl _)) _, ⟨_, ?_, hW.setNull x hx hlt hI hc⟩, ⟨T, ?_, hTs.pass (fun e _ => hc e)⟩⟩
  · have b := hB.set (nI + j / 64) (.int .u64 (bits .or .u64 (x : Int) (IntKind.u64.wrap (2 ^ (j % 64)))))
    rw [or_set x (j % 64) hlt (Nat.mod_lt _ (by omega))] at b ⊢
    rw [List.map_set]
    exact b
  · exact ((Kp.refl [wr.heap.size] v).setCell (.inl (by simp)) _).blk hT (by simp)

theorem RowAt.int {wr v : World} {c nI ps pr : Nat} {tx : List Bool} {isN : Bool} {z : Int} {s : ByteArray} {j : Nat} (h : RowAt wr v c nI ps pr tx isN z s j) (y : Int) (hj : tx[j]? = some false) (hjs : slotOf tx j < nI) (hnp : nI ≤ pr)
    (hc : c = j → isN = false ∧ y = z) : RowAt wr (v.setCell ⟨wr.heap.size, slotOf tx j, none⟩ (.int .u64 (IntKind.u64.wrap y))) c nI ps pr tx isN z s (j + 1) := by
  obtain ⟨T, hT, hTs⟩ := h.strs
  obtain ⟨W, hB, hW⟩ := h.words
  refine ⟨by simpa [World.setCell] using h.size, h.kp.setCell (.inr (Nat.le_refl _)) _, ⟨_, ?_, hW.setInt y hj hjs hnp hc⟩, ⟨T, ?_, hTs.pass (fun e ht => by subst e; rw [hj] at ht; cases ht)⟩⟩
  · rw [List.map_set]
    exact hB.set _ _
  · exact ((Kp.refl [wr.heap.size] v).setCell (.inl (by simp)) _).blk hT (by simp)

theorem RowAt.str {wr v : World} {c nI ps pr : Nat} {tx : List Bool} {isN : Bool} {z : Int} {s : ByteArray} {j : Nat} (h : RowAt wr v c nI ps pr tx isN z s j) (y : ByteArray) (hj : tx[j]? = some true) (hjs : slotOf tx j < ps)
    (hc : c = j → isN = false ∧ y = s) : RowAt wr (v.setCell ⟨wr.heap.size + 1, slotOf tx j, none⟩ (.string y)) c nI ps pr tx isN z s (j + 1) := by
  obtain ⟨T, hT, hTs⟩ := h.strs
  obtain ⟨W, hB, hW⟩ := h.words
  refine ⟨by simpa [World.setCell] using h.size, h.kp.setCell (.inr (Nat.le_succ _)) _, ⟨W, ?_, hW.pass hj (fun e => (hc e).1)⟩, ⟨_, ?_, hTs.setStr y hj hjs hc⟩⟩
  · exact ((Kp.refl [wr.heap.size + 1] v).setCell (.inl (by simp)) _).blk hB (by simp)
  · rw [List.map_set]
    exact hT.set _ _

theorem RowAt.drew {wr v : World} {c nI ps pr : Nat} {tx : List Bool} {isN : Bool} {z : Int} {s : ByteArray} {j : Nat} (h : RowAt wr v c nI ps pr tx isN z s j) : RowAt wr v.drew c nI ps pr tx isN z s j :=
  ⟨h.size, h.kp.drew, h.words, h.strs⟩

theorem rowsTo_next {w wr v : World} {m nC c nI ps pr : Nat} {tx : List Bool} {cs : List Int} {ss : List ByteArray} {nu : List Bool} {k : Nat} (h : RowsTo w wr m nC c nI ps pr tx cs ss nu k) (hk : k < m)
    (hv : RowAt wr v c nI ps pr tx (nuAt nu nC c k) (cs.getD (k * nC + c) 0) (ss.getD (k * nC + c) ByteArray.empty) nC) :
    RowsTo w ((v.setCell ⟨w.heap.size, k, none⟩ (.slice (some ⟨wr.heap.size, 0, none⟩) pr pr)).setCell ⟨w.heap.size + 1, k, none⟩ (.slice (some ⟨wr.heap.size + 1, 0, none⟩) ps ps)) m nC c nI ps pr tx cs ss nu (k + 1) := by
  have hsz := h.size
  have b1 := hv.kp.blk h.rws (by simp)
  have b2 := hv.kp.blk h.txs (by simp)
  have bel : Below w.heap.size w v := h.bel.trans (hv.kp.toBelow.mono h.bel.size)
  have K : Kp [w.heap.size, w.heap.size + 1] v ((v.setCell ⟨w.heap.size, k, none⟩ (.slice (some ⟨wr.heap.size, 0, none⟩) pr pr)).setCell ⟨w.heap.size + 1, k, none⟩ (.slice (some ⟨wr.heap.size + 1, 0, none⟩) ps ps)) :=
    ((Kp.refl _ v).setCell (.inl (by simp)) _).setCell (.inl (by simp)) _
  refine ⟨?_, ?_, ?_, ?_, ?_, ?_⟩
  · have := hv.size
    simp [World.setCell] at this ⊢
    omega
  · exact K.below bel bel.size (by simp)
  · rw [← fill_set _ _ _ (.slice (some ⟨wr.heap.size, 0, none⟩) pr pr) (by rw [map_range_at _ _ _ hk, rowSl, ← hsz])]
    exact ((Kp.refl [w.heap.size + 1] _).setCell (.inl (by simp)) _).blk (b1.set k _) (by simp)
  · rw [← fill_set _ _ _ (.slice (some ⟨wr.heap.size + 1, 0, none⟩) ps ps) (by rw [map_range_at _ _ _ hk, txtSl, ← hsz])]
    exact (((Kp.refl [w.heap.size] v).setCell (p := ⟨w.heap.size, k, none⟩) (.inl (by simp)) _).blk b2 (by simp)).set k _
  · intro i hi
    by_cases hik : i = k
    · subst hik
      obtain ⟨W, hB, hW⟩ := hv.words
      rw [hsz] at hB
      exact ⟨W, K.blk hB (by simp <;> omega), hW⟩
    · obtain ⟨W, hB, hW⟩ := h.rows i (by omega)
      exact ⟨W, K.blk (hv.kp.blk hB (by simp)) (by simp <;> omega), hW⟩
  · intro i hi
    by_cases hik : i = k
    · subst hik
      obtain ⟨W, hB, hW⟩ := hv.strs
      rw [hsz] at hB
      exact ⟨W, K.blk hB (by simp <;> omega), hW⟩
    · obtain ⟨W, hB, hW⟩ := h.strs i (by omega)
      exact ⟨W, K.blk (hv.kp.blk hB (by simp)) (by simp <;> omega), hW⟩

theorem rowsTo_packed {w wr : World} {m nC c nI ps pr : Nat} {tx : List Bool} {cs : List Int} {ss : List ByteArray} {nu : List Bool} (h : RowsTo w wr m nC c nI ps pr tx cs ss nu m) :
    Packed wr w.heap.size (w.heap.size + 1) m pr ps nC c nI (fun i => w.heap.size + 2 + 2 * i) (fun i => w.heap.size + 2 + 2 * i + 1) tx cs ss nu := by
  have b1 := h.rws
  have b2 := h.txs
  rw [fill_all _ _ _ (by simp)] at b1 b2
  exact ⟨fun i hi => ⟨b1.cell (map_range_at _ _ _ hi), h.rows i hi⟩, fun i hi => ⟨b2.cell (map_range_at _ _ _ hi), h.strs i hi⟩⟩

end Go.Proofs.Qxb6001672a
