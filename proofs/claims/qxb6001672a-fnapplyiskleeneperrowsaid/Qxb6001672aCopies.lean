/-
  cloneI64 (39), cloneU8 (40), zzToStates (58), zzFromStates (60): a loop that copies.
-/
import Derived.Test.Qxb6001672aRows
import Derived.Test.Qxb6001672aMem2
set_option linter.unusedSimpArgs false
set_option linter.unusedVariables false
namespace Go.Proofs.Qxb6001672a
open Go.RowKit
theorem cinfo2 : (Try.prog.info? 2).map (fun i => (i.zero, i.size, i.bytes)) = some (some (.int .i64 0), 1, 8) := by kernel_rfl
theorem cinfo5 : (Try.prog.info? 5).map (fun i => (i.zero, i.size, i.bytes)) = some (some (.int .u8 0), 1, 1) := by kernel_rfl
theorem cinfo86 : (Try.prog.info? 86).map (fun i => (i.zero, i.size, i.bytes)) = some (some (.int .u8 0), 1, 1) := by kernel_rfl

set_option maxRecDepth 100000 in
set_option maxHeartbeats 400000 in
theorem clo39 (p : Option Addr) (c : Nat) (zs : List Int) (w : World) (hn : zs.length ≤ 1048576) (hp : Src w p (zs.map (Value.int .i64))) (hp0 : p = none → zs.length = 0 ∧ c = 0) :
    Calls Try.prog 39 #[.slice p zs.length c] w (Cl w zs.length (zs.map (Value.int .i64)) 2) := by
  have hmk := fun w => run_make_row' (P := Try.prog) 27 2 (.int .i64 0) 8 Try.underlying27 cinfo2 rfl .i64 .i64 zs.length (by omega) (by omega) w
  cases p with
  | none =>
    obtain ⟨h0, rfl⟩ := hp0 rfl
    obtain rfl : zs = [] := List.eq_nil_of_length_eq_zero h0
    have hnil : ∀ w, (binOp .eql 27 (.slice none 0 0) (.slice none 0 0)).run Try.prog w = .ok (.bool true) w := fun w => by
      rw [Lib.run_eql_slice_nil w 27 2 _ _ _ _ _ Try.underlying27]; rfl
    go_enter Try.func39, Try.ntmps39
    go_wp2
    go_ret
    exact ⟨none, rfl, fun h => by simp at h, Kp.refl _ _, by omega⟩
  | some a =>
    have hnil : ∀ w, (binOp .eql 27 (.slice (some a) zs.length c) (.slice none 0 0)).run Try.prog w = .ok (.bool false) w := fun w => by
      rw [Lib.run_eql_slice_nil w 27 2 _ _ _ _ _ Try.underlying27]; rfl
    clear hp0
    go_enter Try.func39, Try.ntmps39
    go_wp2
    go_loopw [12] (fun i wr => ∃ k : Nat, k ≤ zs.length ∧ i = .int .i64 k ∧ Blk wr w.heap.size (fill (zs.map (Value.int .i64)) (.int .i64 0) k) 2 ∧ Kp [] w wr ∧ wr.heap.size = w.heap.size + 1) (fun i _ => zs.length - (intOf i).toNat)
    case atStart =>
      refine ⟨0, Nat.zero_le _, rfl, ?_, (Kp.refl _ _).alloc _, by simp⟩
      have := Blk.new w (madeCells #[.int .i64 0] zs.length) 2
      rw [made_list] at this
      rw [fill_zero]
      simpa using this
    case round =>
      obtain ⟨k, hk, rfl, hB, hK, hs⟩ := hrel
      clear hmk
      by_cases hlt : k < zs.length
      · obtain ⟨b, o, ho, hb, hc⟩ := hp (by simp; omega)
        cases ho
        obtain ⟨z, hz⟩ := getElem?_lt_some zs k hlt
        have h1 : wr.cell? ⟨b, o + k, none⟩ = some (.int .i64 z) := (hK.cell (p := ⟨b, o + k, none⟩) hb (by simp)).trans (hc k _ (by simp [hz]))
        have h2 : wr.cell? ⟨w.heap.size, k, none⟩ = some (.int .i64 0) := hB.cell (fill_at _ _ _ (by simpa using hlt))
        have h3 := hB.frozen k
        have H : Blk (wr.setCell ⟨w.heap.size, k, none⟩ (.int .i64 z)) w.heap.size (fill (zs.map (Value.int .i64)) (.int .i64 0) (k + 1)) 2 := by
          have := hB.set k (.int .i64 z)
          rwa [fill_set _ _ _ _ (by simp [hz])] at this
        clear hB hz hc hp
        go_wp2
        go_roundw
        case rel => exact ⟨k + 1, by omega, by go_num, H, hK.setCell (.inr (Nat.le_refl _)) _, by simpa [World.setCell] using hs⟩
        case measure => simp [intOf]; omega
      · go_wp2
        go_ret
        rw [fill_all _ _ _ (by simp; omega)] at hB
        exact ⟨_, rfl, fun _ => ⟨rfl, hB⟩, hK, by omega⟩

set_option maxRecDepth 100000 in
set_option maxHeartbeats 400000 in
theorem clo40 (p : Option Addr) (c : Nat) (zs : List Int) (w : World) (hn : zs.length ≤ 1048576) (hp : Src w p (zs.map (Value.int .u8))) (hp0 : p = none → zs.length = 0 ∧ c = 0) :
    Calls Try.prog 40 #[.slice p zs.length c] w (Cl w zs.length (zs.map (Value.int .u8)) 5) := by
  have hmk := fun w => run_make_row' (P := Try.prog) 28 5 (.int .u8 0) 1 Try.underlying28 cinfo5 rfl .i64 .i64 zs.length (by omega) (by omega) w
  cases p with
  | none =>
    obtain ⟨h0, rfl⟩ := hp0 rfl
    obtain rfl : zs = [] := List.eq_nil_of_length_eq_zero h0
    have hnil : ∀ w, (binOp .eql 28 (.slice none 0 0) (.slice none 0 0)).run Try.prog w = .ok (.bool true) w := fun w => by
      rw [Lib.run_eql_slice_nil w 28 5 _ _ _ _ _ Try.underlying28]; rfl
    go_enter Try.func40, Try.ntmps40
    go_wp2
    go_ret
    exact ⟨none, rfl, fun h => by simp at h, Kp.refl _ _, by omega⟩
  | some a =>
    have hnil : ∀ w, (binOp .eql 28 (.slice (some a) zs.length c) (.slice none 0 0)).run Try.prog w = .ok (.bool false) w := fun w => by
      rw [Lib.run_eql_slice_nil w 28 5 _ _ _ _ _ Try.underlying28]; rfl
    clear hp0
    go_enter Try.func40, Try.ntmps40
    go_wp2
    go_loopw [12] (fun i wr => ∃ k : Nat, k ≤ zs.length ∧ i = .int .i64 k ∧ Blk wr w.heap.size (fill (zs.map (Value.int .u8)) (.int .u8 0) k) 5 ∧ Kp [] w wr ∧ wr.heap.size = w.heap.size + 1) (fun i _ => zs.length - (intOf i).toNat)
    case atStart =>
      refine ⟨0, Nat.zero_le _, rfl, ?_, (Kp.refl _ _).alloc _, by simp⟩
      have := Blk.new w (madeCells #[.int .u8 0] zs.length) 5
      rw [made_list] at this
      rw [fill_zero]
      simpa using this
    case round =>
      obtain ⟨k, hk, rfl, hB, hK, hs⟩ := hrel
      clear hmk
      by_cases hlt : k < zs.length
      · obtain ⟨b, o, ho, hb, hc⟩ := hp (by simp; omega)
        cases ho
        obtain ⟨z, hz⟩ := getElem?_lt_some zs k hlt
        have h1 : wr.cell? ⟨b, o + k, none⟩ = some (.int .u8 z) := (hK.cell (p := ⟨b, o + k, none⟩) hb (by simp)).trans (hc k _ (by simp [hz]))
        have h2 : wr.cell? ⟨w.heap.size, k, none⟩ = some (.int .u8 0) := hB.cell (fill_at _ _ _ (by simpa using hlt))
        have h3 := hB.frozen k
        have H : Blk (wr.setCell ⟨w.heap.size, k, none⟩ (.int .u8 z)) w.heap.size (fill (zs.map (Value.int .u8)) (.int .u8 0) (k + 1)) 5 := by
          have := hB.set k (.int .u8 z)
          rwa [fill_set _ _ _ _ (by simp [hz])] at this
        clear hB hz hc hp
        go_wp2
        go_roundw
        case rel => exact ⟨k + 1, by omega, by go_num, H, hK.setCell (.inr (Nat.le_refl _)) _, by simpa [World.setCell] using hs⟩
        case measure => simp [intOf]; omega
      · go_wp2
        go_ret
        rw [fill_all _ _ _ (by simp; omega)] at hB
        exact ⟨_, rfl, fun _ => ⟨rfl, hB⟩, hK, by omega⟩

set_option maxRecDepth 100000 in
set_option maxHeartbeats 400000 in
theorem clo58 (p : Option Addr) (c : Nat) (zs : List Int) (w : World) (hn : zs.length ≤ 1048576) (hp : Src w p (zs.map (Value.int .u8))) (hp0 : p = none → zs.length = 0 ∧ c = 0) :
    Calls Try.prog 58 #[.slice p zs.length c] w (Cl w zs.length (zs.map (Value.int .u8)) 86) := by
  have hmk := fun w => run_make_row' (P := Try.prog) 85 86 (.int .u8 0) 1 Try.underlying85 cinfo86 rfl .i64 .i64 zs.length (by omega) (by omega) w
  cases p with
  | none =>
    obtain ⟨h0, rfl⟩ := hp0 rfl
    obtain rfl : zs = [] := List.eq_nil_of_length_eq_zero h0
    have hnil : ∀ w, (binOp .eql 28 (.slice none 0 0) (.slice none 0 0)).run Try.prog w = .ok (.bool true) w := fun w => by
      rw [Lib.run_eql_slice_nil w 28 5 _ _ _ _ _ Try.underlying28]; rfl
    go_enter Try.func58, Try.ntmps58
    go_wp2
    go_ret
    exact ⟨none, rfl, fun h => by simp at h, Kp.refl _ _, by omega⟩
  | some a =>
    have hnil : ∀ w, (binOp .eql 28 (.slice (some a) zs.length c) (.slice none 0 0)).run Try.prog w = .ok (.bool false) w := fun w => by
      rw [Lib.run_eql_slice_nil w 28 5 _ _ _ _ _ Try.underlying28]; rfl
    clear hp0
    go_enter Try.func58, Try.ntmps58
    go_wp2
    go_loopw [12] (fun i wr => ∃ k : Nat, k ≤ zs.length ∧ i = .int .i64 k ∧ Blk wr w.heap.size (fill (zs.map (Value.int .u8)) (.int .u8 0) k) 86 ∧ Kp [] w wr ∧ wr.heap.size = w.heap.size + 1) (fun i _ => zs.length - (intOf i).toNat)
    case atStart =>
      refine ⟨0, Nat.zero_le _, rfl, ?_, (Kp.refl _ _).alloc _, by simp⟩
      have := Blk.new w (madeCells #[.int .u8 0] zs.length) 86
      rw [made_list] at this
      rw [fill_zero]
      simpa using this
    case round =>
      obtain ⟨k, hk, rfl, hB, hK, hs⟩ := hrel
      clear hmk
      by_cases hlt : k < zs.length
      · obtain ⟨b, o, ho, hb, hc⟩ := hp (by simp; omega)
        cases ho
        obtain ⟨z, hz⟩ := getElem?_lt_some zs k hlt
        have h1 : wr.cell? ⟨b, o + k, none⟩ = some (.int .u8 z) := (hK.cell (p := ⟨b, o + k, none⟩) hb (by simp)).trans (hc k _ (by simp [hz]))
        have h2 : wr.cell? ⟨w.heap.size, k, none⟩ = some (.int .u8 0) := hB.cell (fill_at _ _ _ (by simpa using hlt))
        have h3 := hB.frozen k
        have H : Blk (wr.setCell ⟨w.heap.size, k, none⟩ (.int .u8 z)) w.heap.size (fill (zs.map (Value.int .u8)) (.int .u8 0) (k + 1)) 86 := by
          have := hB.set k (.int .u8 z)
          rwa [fill_set _ _ _ _ (by simp [hz])] at this
        clear hB hz hc hp
        go_wp2
        go_roundw
        case rel => exact ⟨k + 1, by omega, by go_num, H, hK.setCell (.inr (Nat.le_refl _)) _, by simpa [World.setCell] using hs⟩
        case measure => simp [intOf]; omega
      · go_wp2
        go_ret
        rw [fill_all _ _ _ (by simp; omega)] at hB
        exact ⟨_, rfl, fun _ => ⟨rfl, hB⟩, hK, by omega⟩

set_option maxRecDepth 100000 in
set_option maxHeartbeats 400000 in
theorem clo60 (p : Option Addr) (c : Nat) (zs : List Int) (w : World) (hn : zs.length ≤ 1048576) (hp : Src w p (zs.map (Value.int .u8))) (hp0 : p = none → zs.length = 0 ∧ c = 0) :
    Calls Try.prog 60 #[.slice p zs.length c] w (Cl w zs.length (zs.map (Value.int .u8)) 5) := by
  have hmk := fun w => run_make_row' (P := Try.prog) 28 5 (.int .u8 0) 1 Try.underlying28 cinfo5 rfl .i64 .i64 zs.length (by omega) (by omega) w
  cases p with
  | none =>
    obtain ⟨h0, rfl⟩ := hp0 rfl
    obtain rfl : zs = [] := List.eq_nil_of_length_eq_zero h0
    have hnil : ∀ w, (binOp .eql 85 (.slice none 0 0) (.slice none 0 0)).run Try.prog w = .ok (.bool true) w := fun w => by
      rw [Lib.run_eql_slice_nil w 85 86 _ _ _ _ _ Try.underlying85]; rfl
    go_enter Try.func60, Try.ntmps60
    go_wp2
    go_ret
    exact ⟨none, rfl, fun h => by simp at h, Kp.refl _ _, by omega⟩
  | some a =>
    have hnil : ∀ w, (binOp .eql 85 (.slice (some a) zs.length c) (.slice none 0 0)).run Try.prog w = .ok (.bool false) w := fun w => by
      rw [Lib.run_eql_slice_nil w 85 86 _ _ _ _ _ Try.underlying85]; rfl
    clear hp0
    go_enter Try.func60, Try.ntmps60
    go_wp2
    go_loopw [12] (fun i wr => ∃ k : Nat, k ≤ zs.length ∧ i = .int .i64 k ∧ Blk wr w.heap.size (fill (zs.map (Value.int .u8)) (.int .u8 0) k) 5 ∧ Kp [] w wr ∧ wr.heap.size = w.heap.size + 1) (fun i _ => zs.length - (intOf i).toNat)
    case atStart =>
      refine ⟨0, Nat.zero_le _, rfl, ?_, (Kp.refl _ _).alloc _, by simp⟩
      have := Blk.new w (madeCells #[.int .u8 0] zs.length) 5
      rw [made_list] at this
      rw [fill_zero]
      simpa using this
    case round =>
      obtain ⟨k, hk, rfl, hB, hK, hs⟩ := hrel
      clear hmk
      by_cases hlt : k < zs.length
      · obtain ⟨b, o, ho, hb, hc⟩ := hp (by simp; omega)
        cases ho
        obtain ⟨z, hz⟩ := getElem?_lt_some zs k hlt
        have h1 : wr.cell? ⟨b, o + k, none⟩ = some (.int .u8 z) := (hK.cell (p := ⟨b, o + k, none⟩) hb (by simp)).trans (hc k _ (by simp [hz]))
        have h2 : wr.cell? ⟨w.heap.size, k, none⟩ = some (.int .u8 0) := hB.cell (fill_at _ _ _ (by simpa using hlt))
        have h3 := hB.frozen k
        have H : Blk (wr.setCell ⟨w.heap.size, k, none⟩ (.int .u8 z)) w.heap.size (fill (zs.map (Value.int .u8)) (.int .u8 0) (k + 1)) 5 := by
          have := hB.set k (.int .u8 z)
          rwa [fill_set _ _ _ _ (by simp [hz])] at this
        clear hB hz hc hp
        go_wp2
        go_roundw
        case rel => exact ⟨k + 1, by omega, by go_num, H, hK.setCell (.inr (Nat.le_refl _)) _, by simpa [World.setCell] using hs⟩
        case measure => simp [intOf]; omega
      · go_wp2
        go_ret
        rw [fill_all _ _ _ (by simp; omega)] at hB
        exact ⟨_, rfl, fun _ => ⟨rfl, hB⟩, hK, by omega⟩

end Go.Proofs.Qxb6001672a
