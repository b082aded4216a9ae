/-
  readAgrees (30).
-/
import Derived.Test.Qxb6001672aStrs
namespace Go.Proofs.Qxb6001672a
open Go.RowKit

/-- It answers true, and nothing that was there has turned. -/
def RetTrue (w : World) (e : Ending) (w' : World) : Prop := e = .returned (.bool true) ∧ Below w.heap.size w w'

/-- Ints, called in whatever later world, reads V and N. -/
def CanInts (w0 : World) (rB c m : Nat) (V : List Int) (N : List Bool) : Prop :=
  ∀ (w : World) (vB nB : Nat) (vs : List Int) (ns : List Bool) (tv tn : Value), Below w0.heap.size w0 w → w0.heap.size ≤ vB → w0.heap.size ≤ nB → vB ≠ nB →
    Blk w vB (vs.map (Value.int .i64) ++ [tv]) 2 → Blk w nB (ns.map Value.bool ++ [tn]) 4 → vs.length = m → ns.length = m →
    Calls Try.prog 54 #[.pointer (some ⟨rB, 0, none⟩), .int .i64 c, .slice (some ⟨vB, 0, none⟩) (m + 1) (m + 1), .slice (some ⟨nB, 0, none⟩) (m + 1) (m + 1)] w (ReadOut w vB nB 2 (V.map (Value.int .i64)) N tv tn)

def CanStrs (w0 : World) (rB c m : Nat) (V : List ByteArray) (N : List Bool) : Prop :=
  ∀ (w : World) (vB nB : Nat) (vs : List ByteArray) (ns : List Bool) (tv tn : Value), Below w0.heap.size w0 w → w0.heap.size ≤ vB → w0.heap.size ≤ nB → vB ≠ nB →
    Blk w vB (vs.map Value.string ++ [tv]) 9 → Blk w nB (ns.map Value.bool ++ [tn]) 4 → vs.length = m → ns.length = m →
    Calls Try.prog 53 #[.pointer (some ⟨rB, 0, none⟩), .int .i64 c, .slice (some ⟨vB, 0, none⟩) (m + 1) (m + 1), .slice (some ⟨nB, 0, none⟩) (m + 1) (m + 1)] w (ReadOut w vB nB 9 (V.map Value.string) N tv tn)

set_option maxRecDepth 100000 in
set_option maxHeartbeats 800000 in
theorem agreeI30 (rB c m wiB wnB : Nat) (sp : Option Addr) (sl sc : Nat) (V : List Int) (N : List Bool) (an : Bool) (w : World) (hm : m ≤ 64) (hcan : CanInts w rB c m V N)
    (hV : Blk w wiB (V.map (Value.int .i64)) 2) (hN : Blk w wnB (N.map Value.bool) 4) (lV : V.length = m) (lN : N.length = m) (han : N.any id = an) :
    Calls Try.prog 30 #[.pointer (some ⟨rB, 0, none⟩), .int .i64 c, .bool false, .slice (some ⟨wiB, 0, none⟩) m m, .slice sp sl sc, .slice (some ⟨wnB, 0, none⟩) m m, .bool an] w (RetTrue w) := by
  have ec : ((m + 1 : Nat) : Int) = (m : Int) + 1 := by omega
  have hmk := fun w => run_make_row' (P := Try.prog) 38 4 (.bool false) 1 Try.underlying38 info4 rfl .i64 .i64 (m + 1) (by omega) (by omega) w
  have hmk2 := fun w => run_make_row' (P := Try.prog) 27 2 (.int .i64 0) 8 Try.underlying27 info2 rfl .i64 .i64 (m + 1) (by omega) (by omega) w
  rw [ec] at hmk hmk2
  have Han : Hid (N.any id = an) := han
  clear han ec
  have q1 := made_at (.bool false) (m + 1) m (by omega)
  have q2 := made_at (.int .i64 0) (m + 1) m (by omega)
  go_enter Try.func30, Try.ntmps30
  go_wp2_with fail
  obtain ⟨a1, a2, a3⟩ := two_alloc w ((madeCells #[Value.bool false] (m + 1)).setIfInBounds m (Value.bool true)) ((madeCells #[Value.int IntKind.i64 0] (m + 1)).setIfInBounds m (Value.int IntKind.i64 7)) 4 2
  rw [made_set_last] at a1 a2
  refine (hcan _ (w.heap.size + 1) w.heap.size (List.replicate m 0) (List.replicate m false) (.int .i64 7) (.bool true) a3 (by omega) (by omega) (by omega) (by simpa using a2) (by simpa using a1) (by simp) (by simp)).mono ?_
  clear a1 a2 q1 q2 hmk hmk2
  rintro e w1 ⟨rfl, b2, b1, hK⟩
  have hbel := hK.below a3 a3.size (by simp)
  clear a3 hK
  rw [Han.out]
  simp only []
  have d1 : w1.cell? ⟨w.heap.size + 1, m, none⟩ = some (.int .i64 7) := b2.cell (by rw [List.getElem?_append_right (by simp [lV])]; simp [lV])
  have d2 : w1.cell? ⟨w.heap.size, m, none⟩ = some (.bool true) := b1.cell (by rw [List.getElem?_append_right (by simp [lN])]; simp [lN])
  have i1 : (m : Int) < (m : Int) + 1 := by omega
  go_wp2
  clear d1 d2
  go_loopw [22] (fun i wr => ∃ k : Nat, k ≤ m ∧ i = .int .i64 k ∧ ∃ q, wr = w1.drewN q) (fun i _ => m - (intOf i).toNat)
  case atStart => exact ⟨0, Nat.zero_le _, rfl, 0, rfl⟩
  case round =>
    obtain ⟨k, hk, rfl, q, rfl⟩ := hrel
    by_cases hlt : k < m
    · obtain ⟨nb, hnb⟩ := getElem?_lt_some N k (by omega)
      obtain ⟨v, hv⟩ := getElem?_lt_some V k (by omega)
      have e1 : w1.cell? ⟨w.heap.size, k, none⟩ = some (.bool nb) := b1.cell (by rw [List.getElem?_append_left (by simp; omega)]; simp [hnb])
      have e2 : w1.cell? ⟨w.heap.size + 1, k, none⟩ = some (.int .i64 v) := b2.cell (by rw [List.getElem?_append_left (by simp; omega)]; simp [hv])
      have e3 : w1.cell? ⟨wnB, k, none⟩ = some (.bool nb) := old_cell hbel (hN.cell (by simp [hnb]))
      have e4 : w1.cell? ⟨wiB, k, none⟩ = some (.int .i64 v) := old_cell hbel (hV.cell (by simp [hv]))
      have i2 : (k : Int) < (m : Int) := by omega
      have i3 : (k : Int) < (m : Int) + 1 := by omega
      have Hbel : Hid (Below w.heap.size w w1) := hbel
      clear hnb hv hbel b1 b2 hN hV hcan
      cases nb
      · go_wp2
        go_quiet (fail)
        go_wp2
        go_quiet (fail)
        go_wp2
        go_roundw
        case rel => exact ⟨k + 1, by omega, by go_num, _, rfl⟩
        case measure => simp [intOf]; omega
      · go_wp2
        go_quiet (fail)
        go_wp2
        go_quiet (fail)
        go_wp2
        go_roundw
        case rel => exact ⟨k + 1, by omega, by go_num, _, rfl⟩
        case measure => simp [intOf]; omega
    · go_wp2
      go_ret
      exact ⟨rfl, ⟨hbel.os, hbel.tape, hbel.output, hbel.size, hbel.block⟩⟩
set_option maxRecDepth 100000 in
set_option maxHeartbeats 800000 in
theorem agreeS30 (rB c m wsB wnB : Nat) (ip : Option Addr) (il ic : Nat) (V : List ByteArray) (N : List Bool) (an : Bool) (w : World) (hm : m ≤ 64) (hcan : CanStrs w rB c m V N)
    (hV : Blk w wsB (V.map Value.string) 9) (hN : Blk w wnB (N.map Value.bool) 4) (lV : V.length = m) (lN : N.length = m) (han : N.any id = an) :
    Calls Try.prog 30 #[.pointer (some ⟨rB, 0, none⟩), .int .i64 c, .bool true, .slice ip il ic, .slice (some ⟨wsB, 0, none⟩) m m, .slice (some ⟨wnB, 0, none⟩) m m, .bool an] w (RetTrue w) := by
  have ec : ((m + 1 : Nat) : Int) = (m : Int) + 1 := by omega
  have hmk := fun w => run_make_row' (P := Try.prog) 38 4 (.bool false) 1 Try.underlying38 info4 rfl .i64 .i64 (m + 1) (by omega) (by omega) w
  have hmk2 := fun w => run_make_row' (P := Try.prog) 48 9 (.string ByteArray.empty) 16 Try.underlying48 info9 rfl .i64 .i64 (m + 1) (by omega) (by omega) w
  rw [ec] at hmk hmk2
  have Han : Hid (N.any id = an) := han
  clear han ec
  have q1 := made_at (.bool false) (m + 1) m (by omega)
  have q2 := made_at (.string ByteArray.empty) (m + 1) m (by omega)
  go_enter Try.func30, Try.ntmps30
  go_wp2_with fail
  obtain ⟨a1, a2, a3⟩ := two_alloc w ((madeCells #[Value.bool false] (m + 1)).setIfInBounds m (Value.bool true)) ((madeCells #[Value.string ByteArray.empty] (m + 1)).setIfInBounds m (Value.string { data := #[116, 97, 105, 108] })) 4 9
  rw [made_set_last] at a1 a2
  refine (hcan _ (w.heap.size + 1) w.heap.size (List.replicate m ByteArray.empty) (List.replicate m false) (.string { data := #[116, 97, 105, 108] }) (.bool true) a3 (by omega) (by omega) (by omega) (by simpa using a2) (by simpa using a1) (by simp) (by simp)).mono ?_
  clear a1 a2 q1 q2 hmk hmk2
  rintro e w1 ⟨rfl, b2, b1, hK⟩
  have hbel := hK.below a3 a3.size (by simp)
  clear a3 hK
  rw [Han.out]
  simp only []
  have d1 : w1.cell? ⟨w.heap.size + 1, m, none⟩ = some (.string { data := #[116, 97, 105, 108] }) := b2.cell (by rw [List.getElem?_append_right (by simp [lV])]; simp [lV])
  have d2 : w1.cell? ⟨w.heap.size, m, none⟩ = some (.bool true) := b1.cell (by rw [List.getElem?_append_right (by simp [lN])]; simp [lN])
  have i1 : (m : Int) < (m : Int) + 1 := by omega
  go_wp2
  clear d1 d2
  go_loopw [19] (fun i wr => ∃ k : Nat, k ≤ m ∧ i = .int .i64 k ∧ ∃ q, wr = w1.drewN q) (fun i _ => m - (intOf i).toNat)
  case atStart => exact ⟨0, Nat.zero_le _, rfl, 0, rfl⟩
  case round =>
    obtain ⟨k, hk, rfl, q, rfl⟩ := hrel
    by_cases hlt : k < m
    · obtain ⟨nb, hnb⟩ := getElem?_lt_some N k (by omega)
      obtain ⟨v, hv⟩ := getElem?_lt_some V k (by omega)
      have e1 : w1.cell? ⟨w.heap.size, k, none⟩ = some (.bool nb) := b1.cell (by rw [List.getElem?_append_left (by simp; omega)]; simp [hnb])
      have e2 : w1.cell? ⟨w.heap.size + 1, k, none⟩ = some (.string v) := b2.cell (by rw [List.getElem?_append_left (by simp; omega)]; simp [hv])
      have e3 : w1.cell? ⟨wnB, k, none⟩ = some (.bool nb) := old_cell hbel (hN.cell (by simp [hnb]))
      have e4 : w1.cell? ⟨wsB, k, none⟩ = some (.string v) := old_cell hbel (hV.cell (by simp [hv]))
      have i2 : (k : Int) < (m : Int) := by omega
      have i3 : (k : Int) < (m : Int) + 1 := by omega
      have Hbel : Hid (Below w.heap.size w w1) := hbel
      clear hnb hv hbel b1 b2 hN hV hcan
      cases nb
      · go_wp2
        go_quiet (fail)
        go_wp2
        go_roundw
        case rel => exact ⟨k + 1, by omega, by go_num, _, rfl⟩
        case measure => simp [intOf]; omega
      · go_wp2
        go_quiet (fail)
        go_wp2
        go_roundw
        case rel => exact ⟨k + 1, by omega, by go_num, _, rfl⟩
        case measure => simp [intOf]; omega
    · go_wp2
      go_ret
      exact ⟨rfl, ⟨hbel.os, hbel.tape, hbel.output, hbel.size, hbel.block⟩⟩
end Go.Proofs.Qxb6001672a
