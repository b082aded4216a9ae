/-
  ZZNewRows (29), ZZAddFound (31).
-/
import Derived.Test.Qxb6001672aClone
namespace Go.Proofs.Qxb6001672a
open Go.RowKit

theorem hide {p : Prop} (h : p) : Hid p := h
theorem unhide {p : Prop} (h : Hid p) : p := h

theorem info102 : (Try.prog.info? 102).map (fun i => (i.zero, i.size, i.bytes)) = some (some (.agg #[.int .i64 0, .slice none 0 0, .slice none 0 0, .slice none 0 0, .bool false]), 5, 88) := by kernel_rfl

/-- What ZZNewRows leaves: the layout's block, the batch's block. -/
def NewOut (w : World) (slots text : Value) (wd nu st : Int) (rws txs room : Value) (e : Ending) (w' : World) : Prop :=
  e = .returned (.pointer (some ⟨w.heap.size + 1, 0, none⟩)) ∧ Blk w' w.heap.size [slots, text, .int .i64 wd, .int .i64 nu, .int .i64 st] 98 ∧
  Blk w' (w.heap.size + 1) [.pointer (some ⟨w.heap.size, 0, none⟩), rws, txs, room, .slice none 0 0] 67 ∧ Below w.heap.size w w'

set_option maxRecDepth 100000 in
set_option maxHeartbeats 400000 in
theorem newRows29 (p0 p1 p5 p6 p7 : Option Addr) (l0 l1 l5 l6 l7 c0 c1 c5 c6 c7 : Nat) (wd nu st : Int) (w : World) :
    Calls Try.prog 29 #[.slice p0 l0 c0, .slice p1 l1 c1, .int .i64 wd, .int .i64 nu, .int .i64 st, .slice p5 l5 c5, .slice p6 l6 c6, .slice p7 l7 c7] w
      (NewOut w (.slice p0 l0 c0) (.slice p1 l1 c1) wd nu st (.slice p5 l5 c5) (.slice p6 l6 c6) (.slice p7 l7 c7)) := by
  go_enter Try.func29, Try.ntmps29
  go_wp2
  go_ret
  obtain ⟨b1, b2, b3⟩ := two_alloc w #[.slice p0 l0 c0, .slice p1 l1 c1, .int .i64 wd, .int .i64 nu, .int .i64 st] #[.pointer (some ⟨w.heap.size, 0, none⟩), .slice p5 l5 c5, .slice p6 l6 c6, .slice p7 l7 c7, .slice none 0 0] 98 67
  exact ⟨rfl, b1, b2, b3⟩

/-- What ZZAddFound leaves. -/
def Added (w : World) (rB base n : Nat) (a0 a1 a2 a3 v : Value) (xs news : List Value) (e : Ending) (w' : World) : Prop :=
  e = .returned (.tuple #[]) ∧ ∃ g cap, Blk w' rB [a0, a1, a2, a3, .slice (some ⟨g, 0, none⟩) (n + 1) cap] 67 ∧
    w'.ownsRow base 102 5 (.slice (some ⟨g, 0, none⟩) (n + 1) cap) (n + 1) (xs ++ news) ∧ (v.ownBlock = some g ∨ w.heap.size ≤ g) ∧ Kp (rB :: v.ownBlock.toList) w w'

set_option maxRecDepth 100000 in
set_option maxHeartbeats 400000 in
theorem addFound31 (rB base n : Nat) (a0 a1 a2 a3 v : Value) (xs : List Value) (p1 p2 p3 : Option Addr) (l1 l2 l3 c1 c2 c3 : Nat) (col : Int) (has : Bool) (w : World)
    (hR : Blk w rB [a0, a1, a2, a3, v] 67) (hown : w.ownsRow base 102 5 v n xs) (hn : n ≤ 2000) (hbase : base ≤ w.heap.size) (hrb : rB < base) :
    Calls Try.prog 31 #[.pointer (some ⟨rB, 0, none⟩), .int .i64 col, .slice p1 l1 c1, .slice p2 l2 c2, .slice p3 l3 c3, .bool has] w
      (Added w rB base n a0 a1 a2 a3 v xs [.int .i64 col, .slice p1 l1 c1, .slice p2 l2 c2, .slice p3 l3 c3, .bool has]) := by
  obtain ⟨i0, hi, hz0, hz1, hz2⟩ := info_parts info102
  have h4 : w.cell? ⟨rB, 4, none⟩ = some v := hR.cell rfl
  go_enter Try.func31, Try.ntmps31
  go_wp2_with (at_builtin; refine wpList_append_lies _ rfl (.tmp 16) (.tmp 23) 65 rfl base 102 i0 _ 5 88 Try.underlying65 hi hz0 hz1 hz2 rfl (by omega) v n xs rfl ?hown ⟨w.heap.size, 0, none⟩ 1 1 [.int .i64 col, .slice p1 l1 c1, .slice p2 l2 c2, .slice p3 l3 c3, .bool has] rfl rfl ?hnews ?h1 (by omega) ?h63 ?hby ?hbase _ rfl ?_)
  case hown => exact hown.alloc _
  case hnews => exact World.news_of_block (heap_alloc_new w _)
  case h1 => intro u hu; simp at hu; rcases hu with rfl | rfl | rfl | rfl | rfl <;> rfl
  case h63 => unfold maxLen; omega
  case hby => omega
  case hbase => simp; omega
  intro g cap w1 hown1 hgrow hat hlt
  have hK0 : Kp [] w (w.alloc (.cells #[.int .i64 col, .slice p1 l1 c1, .slice p2 l2 c2, .slice p3 l3 c3, .bool has] 102)) := (Kp.refl _ _).alloc _
  have hvb : ∀ k, v.ownBlock = some k → base ≤ k ∧ k < w.heap.size := hown.lt
  have hR1 : Blk w1 rB [a0, a1, a2, a3, v] 67 := (Kp.of_grown hgrow).blk (hK0.blk hR (by simp)) (fun h => by
    have := hvb rB (by simpa using h)
    omega)
  have hK1 : Kp v.ownBlock.toList w w1 := (hK0.mono (by simp)).trans ((Kp.of_grown hgrow))
  have hgb : base ≤ g := by rcases hat with h | h; · exact (hvb g h).1
                            · omega
  have hat' : v.ownBlock = some g ∨ w.heap.size ≤ g := by rcases hat with h | h; · exact .inl h
                                                          · exact .inr (by omega)
  have g4 : w1.cell? ⟨rB, 4, none⟩ = some v := hR1.cell rfl
  have f4 := hR1.frozen 4
  have hset := hR1.set 4 (.slice (some ⟨g, 0, none⟩) (n + 1) cap)
  have hown2 : (w1.setCell ⟨rB, 4, none⟩ (.slice (some ⟨g, 0, none⟩) (n + 1) cap)).ownsRow base 102 5 (.slice (some ⟨g, 0, none⟩) (n + 1) cap) (n + 1) (xs ++ [.int .i64 col, .slice p1 l1 c1, .slice p2 l2 c2, .slice p3 l3 c3, .bool has]) :=
    ownsRow_setCell_below hown1 hrb _
  have H1 := hide hown2
  have H2 := hide hset
  have H3 := hide hK1
  clear hgrow hat hown hown1 hown2 hR hR1 hK0 hK1 hset h4
  go_wp2
  go_end0
  refine ⟨rfl, g, cap, ?_, unhide H1, hat', ?_⟩
  · simpa using unhide H2
  · exact ((unhide H3).mono (fun k _ h => List.mem_cons_of_mem _ h)).setCell (.inl (by simp)) _
end Go.Proofs.Qxb6001672a
