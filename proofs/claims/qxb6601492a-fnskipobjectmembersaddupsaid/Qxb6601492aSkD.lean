/-
  SkipObject: zzLiteralEnd (28), zzNumberEnd (29).
-/
import Derived.Test.Qxb6601492aSkC
set_option linter.unusedSimpArgs false
set_option linter.unusedVariables false
namespace Go.Proofs.Qxb6601492a
open Go.RowKit

/-- What the ends of a number or a literal tell. -/
def ScO (w : World) (t : List Int) (p : Nat) (e : Ending) (w' : World) : Prop := Kp [] w w' ∧ (e = .returned (.int .i64 (-1)) ∨ ∃ k : Nat, e = .returned (.int .i64 k) ∧ SC t p k)

set_option maxRecDepth 100000 in
set_option maxHeartbeats 1000000 in
theorem litTrue (b o n c p : Nat) (t : List Int) (w : World) (hT : Txt w b o t) (hn : t.length = n) (hl : n ≤ 65536) (hp : p < n) :
    Calls Try.prog 28 #[.slice (some ⟨b, o, none⟩) n c, .int .i64 p, .string { data := #[116, 114, 117, 101] }] w (ScO w t p) := by
  have H := hide hT
  have HN := hide hn
  clear hT hn
  have i0 : ¬ (p : Int) < 0 := by omega
  by_cases h6 : p + 4 ≤ n
  case neg =>
    have j3 : (n : Int) - (p : Int) < 4 := by omega
    go_enter Try.func28, Try.ntmps28
    go_wp2
    all_goals first
      | (go_ret; exact ⟨Kp.refl _ _, .inl rfl⟩)
      | (exfalso; omega)
  have j3 : ¬ (n : Int) - (p : Int) < 4 := by omega
  go_enter Try.func28, Try.ntmps28
  go_wp2
  go_loopw [7] (fun x wr => ∃ k : Nat, k ≤ 4 ∧ x = .int .i64 k ∧ Kp [] w wr ∧ PC t p (p + k)) (fun x _ => 4 - (intOf x).toNat)
  case atStart => exact ⟨0, by omega, rfl, Kp.refl _ _, PC.nil t p⟩
  case round =>
    obtain ⟨k, hk, rfl, hK, hpc⟩ := hrel
    have HK := hide hK
    have HPC := hide hpc
    by_cases hkm : k < 4
    · obtain ⟨y, hy⟩ := getElem?_lt_some t (p + k) (by have := unhide HN; omega)
      have c1 : wr.cell? ⟨b, o + (p + k), none⟩ = some (.int .u8 y) := ((unhide H).keep hK).2 (p + k) y hy
      have HY := hide hy
      clear hK hpc hy
      obtain rfl | rfl | rfl | rfl : k = 0 ∨ k = 1 ∨ k = 2 ∨ k = 3 := by omega
      · have j5 : (p : Int) + 0 < (n : Int) := by omega
        have j6 : (p : Int) < (n : Int) := by omega
        have ev : ∀ h, (({ data := #[116, 114, 117, 101] } : ByteArray)[0]'h).toNat = 116 := fun _ => rfl
        have c0 : wr.cell? ⟨b, o + p + 0, none⟩ = some (.int .u8 y) := by simpa [Nat.add_assoc] using c1
        have c00 : wr.cell? ⟨b, o + p, none⟩ = some (.int .u8 y) := by simpa using c1
        by_cases hyv : y = 116
        · subst hyv
          go_wp2
          go_quiet (fail)
          go_wp2
          go_roundw
          case rel => exact ⟨0 + 1, by omega, by go_num, (unhide HK).drewN _, (unhide HPC).snoc (unhide HY) rfl⟩
          case measure => simp [intOf]
        · have hb : (y == 116) = false := by simp [hyv]
          have hb' : (y != 116) = true := by simp [hyv]
          go_wp2
          go_quiet (fail)
          go_wp2
          go_ret
          exact ⟨(unhide HK).drewN _, .inl rfl⟩
      · have j5 : (p : Int) + 1 < (n : Int) := by omega
        have j6 : (p : Int) < (n : Int) := by omega
        have ev : ∀ h, (({ data := #[116, 114, 117, 101] } : ByteArray)[1]'h).toNat = 114 := fun _ => rfl
        have c0 : wr.cell? ⟨b, o + p + 1, none⟩ = some (.int .u8 y) := by simpa [Nat.add_assoc] using c1
        have c00 := c0
        by_cases hyv : y = 114
        · subst hyv
          go_wp2
          go_quiet (fail)
          go_wp2
          go_roundw
          case rel => exact ⟨1 + 1, by omega, by go_num, (unhide HK).drewN _, (unhide HPC).snoc (unhide HY) rfl⟩
          case measure => simp [intOf]
        · have hb : (y == 114) = false := by simp [hyv]
          have hb' : (y != 114) = true := by simp [hyv]
          go_wp2
          go_quiet (fail)
          go_wp2
          go_ret
          exact ⟨(unhide HK).drewN _, .inl rfl⟩
      · have j5 : (p : Int) + 2 < (n : Int) := by omega
        have j6 : (p : Int) < (n : Int) := by omega
        have ev : ∀ h, (({ data := #[116, 114, 117, 101] } : ByteArray)[2]'h).toNat = 117 := fun _ => rfl
        have c0 : wr.cell? ⟨b, o + p + 2, none⟩ = some (.int .u8 y) := by simpa [Nat.add_assoc] using c1
        have c00 := c0
        by_cases hyv : y = 117
        · subst hyv
          go_wp2
          go_quiet (fail)
          go_wp2
          go_roundw
          case rel => exact ⟨2 + 1, by omega, by go_num, (unhide HK).drewN _, (unhide HPC).snoc (unhide HY) rfl⟩
          case measure => simp [intOf]
        · have hb : (y == 117) = false := by simp [hyv]
          have hb' : (y != 117) = true := by simp [hyv]
          go_wp2
          go_quiet (fail)
          go_wp2
          go_ret
          exact ⟨(unhide HK).drewN _, .inl rfl⟩
      · have j5 : (p : Int) + 3 < (n : Int) := by omega
        have j6 : (p : Int) < (n : Int) := by omega
        have ev : ∀ h, (({ data := #[116, 114, 117, 101] } : ByteArray)[3]'h).toNat = 101 := fun _ => rfl
        have c0 : wr.cell? ⟨b, o + p + 3, none⟩ = some (.int .u8 y) := by simpa [Nat.add_assoc] using c1
        have c00 := c0
        by_cases hyv : y = 101
        · subst hyv
          go_wp2
          go_quiet (fail)
          go_wp2
          go_roundw
          case rel => exact ⟨3 + 1, by omega, by go_num, (unhide HK).drewN _, (unhide HPC).snoc (unhide HY) rfl⟩
          case measure => simp [intOf]
        · have hb : (y == 101) = false := by simp [hyv]
          have hb' : (y != 101) = true := by simp [hyv]
          go_wp2
          go_quiet (fail)
          go_wp2
          go_ret
          exact ⟨(unhide HK).drewN _, .inl rfl⟩
    · obtain rfl : k = 4 := by omega
      clear hK hpc
      go_wp2
      go_ret
      exact ⟨unhide HK, .inr ⟨p + 4, by go_num, by omega, by have := unhide HN; omega, unhide HPC⟩⟩

set_option maxRecDepth 100000 in
set_option maxHeartbeats 1000000 in
theorem litFalse (b o n c p : Nat) (t : List Int) (w : World) (hT : Txt w b o t) (hn : t.length = n) (hl : n ≤ 65536) (hp : p < n) :
    Calls Try.prog 28 #[.slice (some ⟨b, o, none⟩) n c, .int .i64 p, .string { data := #[102, 97, 108, 115, 101] }] w (ScO w t p) := by
  have H := hide hT
  have HN := hide hn
  clear hT hn
  have i0 : ¬ (p : Int) < 0 := by omega
  by_cases h6 : p + 5 ≤ n
  case neg =>
    have j3 : (n : Int) - (p : Int) < 5 := by omega
    go_enter Try.func28, Try.ntmps28
    go_wp2
    all_goals first
      | (go_ret; exact ⟨Kp.refl _ _, .inl rfl⟩)
      | (exfalso; omega)
  have j3 : ¬ (n : Int) - (p : Int) < 5 := by omega
  go_enter Try.func28, Try.ntmps28
  go_wp2
  go_loopw [7] (fun x wr => ∃ k : Nat, k ≤ 5 ∧ x = .int .i64 k ∧ Kp [] w wr ∧ PC t p (p + k)) (fun x _ => 5 - (intOf x).toNat)
  case atStart => exact ⟨0, by omega, rfl, Kp.refl _ _, PC.nil t p⟩
  case round =>
    obtain ⟨k, hk, rfl, hK, hpc⟩ := hrel
    have HK := hide hK
    have HPC := hide hpc
    by_cases hkm : k < 5
    · obtain ⟨y, hy⟩ := getElem?_lt_some t (p + k) (by have := unhide HN; omega)
      have c1 : wr.cell? ⟨b, o + (p + k), none⟩ = some (.int .u8 y) := ((unhide H).keep hK).2 (p + k) y hy
      have HY := hide hy
      clear hK hpc hy
      obtain rfl | rfl | rfl | rfl | rfl : k = 0 ∨ k = 1 ∨ k = 2 ∨ k = 3 ∨ k = 4 := by omega
      · have j5 : (p : Int) + 0 < (n : Int) := by omega
        have j6 : (p : Int) < (n : Int) := by omega
        have ev : ∀ h, (({ data := #[102, 97, 108, 115, 101] } : ByteArray)[0]'h).toNat = 102 := fun _ => rfl
        have c0 : wr.cell? ⟨b, o + p + 0, none⟩ = some (.int .u8 y) := by simpa [Nat.add_assoc] using c1
        have c00 : wr.cell? ⟨b, o + p, none⟩ = some (.int .u8 y) := by simpa using c1
        by_cases hyv : y = 102
        · subst hyv
          go_wp2
          go_quiet (fail)
          go_wp2
          go_roundw
          case rel => exact ⟨0 + 1, by omega, by go_num, (unhide HK).drewN _, (unhide HPC).snoc (unhide HY) rfl⟩
          case measure => simp [intOf]
        · have hb : (y == 102) = false := by simp [hyv]
          have hb' : (y != 102) = true := by simp [hyv]
          go_wp2
          go_quiet (fail)
          go_wp2
          go_ret
          exact ⟨(unhide HK).drewN _, .inl rfl⟩
      · have j5 : (p : Int) + 1 < (n : Int) := by omega
        have j6 : (p : Int) < (n : Int) := by omega
        have ev : ∀ h, (({ data := #[102, 97, 108, 115, 101] } : ByteArray)[1]'h).toNat = 97 := fun _ => rfl
        have c0 : wr.cell? ⟨b, o + p + 1, none⟩ = some (.int .u8 y) := by simpa [Nat.add_assoc] using c1
        have c00 := c0
        by_cases hyv : y = 97
        · subst hyv
          go_wp2
          go_quiet (fail)
          go_wp2
          go_roundw
          case rel => exact ⟨1 + 1, by omega, by go_num, (unhide HK).drewN _, (unhide HPC).snoc (unhide HY) rfl⟩
          case measure => simp [intOf]
        · have hb : (y == 97) = false := by simp [hyv]
          have hb' : (y != 97) = true := by simp [hyv]
          go_wp2
          go_quiet (fail)
          go_wp2
          go_ret
          exact ⟨(unhide HK).drewN _, .inl rfl⟩
      · have j5 : (p : Int) + 2 < (n : Int) := by omega
        have j6 : (p : Int) < (n : Int) := by omega
        have ev : ∀ h, (({ data := #[102, 97, 108, 115, 101] } : ByteArray)[2]'h).toNat = 108 := fun _ => rfl
        have c0 : wr.cell? ⟨b, o + p + 2, none⟩ = some (.int .u8 y) := by simpa [Nat.add_assoc] using c1
        have c00 := c0
        by_cases hyv : y = 108
        · subst hyv
          go_wp2
          go_quiet (fail)
          go_wp2
          go_roundw
          case rel => exact ⟨2 + 1, by omega, by go_num, (unhide HK).drewN _, (unhide HPC).snoc (unhide HY) rfl⟩
          case measure => simp [intOf]
        · have hb : (y == 108) = false := by simp [hyv]
          have hb' : (y != 108) = true := by simp [hyv]
          go_wp2
          go_quiet (fail)
          go_wp2
          go_ret
          exact ⟨(unhide HK).drewN _, .inl rfl⟩
      · have j5 : (p : Int) + 3 < (n : Int) := by omega
        have j6 : (p : Int) < (n : Int) := by omega
        have ev : ∀ h, (({ data := #[102, 97, 108, 115, 101] } : ByteArray)[3]'h).toNat = 115 := fun _ => rfl
        have c0 : wr.cell? ⟨b, o + p + 3, none⟩ = some (.int .u8 y) := by simpa [Nat.add_assoc] using c1
        have c00 := c0
        by_cases hyv : y = 115
        · subst hyv
          go_wp2
          go_quiet (fail)
          go_wp2
          go_roundw
          case rel => exact ⟨3 + 1, by omega, by go_num, (unhide HK).drewN _, (unhide HPC).snoc (unhide HY) rfl⟩
          case measure => simp [intOf]
        · have hb : (y == 115) = false := by simp [hyv]
          have hb' : (y != 115) = true := by simp [hyv]
          go_wp2
          go_quiet (fail)
          go_wp2
          go_ret
          exact ⟨(unhide HK).drewN _, .inl rfl⟩
      · have j5 : (p : Int) + 4 < (n : Int) := by omega
        have j6 : (p : Int) < (n : Int) := by omega
        have ev : ∀ h, (({ data := #[102, 97, 108, 115, 101] } : ByteArray)[4]'h).toNat = 101 := fun _ => rfl
        have c0 : wr.cell? ⟨b, o + p + 4, none⟩ = some (.int .u8 y) := by simpa [Nat.add_assoc] using c1
        have c00 := c0
        by_cases hyv : y = 101
        · subst hyv
          go_wp2
          go_quiet (fail)
          go_wp2
          go_roundw
          case rel => exact ⟨4 + 1, by omega, by go_num, (unhide HK).drewN _, (unhide HPC).snoc (unhide HY) rfl⟩
          case measure => simp [intOf]
        · have hb : (y == 101) = false := by simp [hyv]
          have hb' : (y != 101) = true := by simp [hyv]
          go_wp2
          go_quiet (fail)
          go_wp2
          go_ret
          exact ⟨(unhide HK).drewN _, .inl rfl⟩
    · obtain rfl : k = 5 := by omega
      clear hK hpc
      go_wp2
      go_ret
      exact ⟨unhide HK, .inr ⟨p + 5, by go_num, by omega, by have := unhide HN; omega, unhide HPC⟩⟩

set_option maxRecDepth 100000 in
set_option maxHeartbeats 1000000 in
theorem litNull (b o n c p : Nat) (t : List Int) (w : World) (hT : Txt w b o t) (hn : t.length = n) (hl : n ≤ 65536) (hp : p < n) :
    Calls Try.prog 28 #[.slice (some ⟨b, o, none⟩) n c, .int .i64 p, .string { data := #[110, 117, 108, 108] }] w (ScO w t p) := by
  have H := hide hT
  have HN := hide hn
  clear hT hn
  have i0 : ¬ (p : Int) < 0 := by omega
  by_cases h6 : p + 4 ≤ n
  case neg =>
    have j3 : (n : Int) - (p : Int) < 4 := by omega
    go_enter Try.func28, Try.ntmps28
    go_wp2
    all_goals first
      | (go_ret; exact ⟨Kp.refl _ _, .inl rfl⟩)
      | (exfalso; omega)
  have j3 : ¬ (n : Int) - (p : Int) < 4 := by omega
  go_enter Try.func28, Try.ntmps28
  go_wp2
  go_loopw [7] (fun x wr => ∃ k : Nat, k ≤ 4 ∧ x = .int .i64 k ∧ Kp [] w wr ∧ PC t p (p + k)) (fun x _ => 4 - (intOf x).toNat)
  case atStart => exact ⟨0, by omega, rfl, Kp.refl _ _, PC.nil t p⟩
  case round =>
    obtain ⟨k, hk, rfl, hK, hpc⟩ := hrel
    have HK := hide hK
    have HPC := hide hpc
    by_cases hkm : k < 4
    · obtain ⟨y, hy⟩ := getElem?_lt_some t (p + k) (by have := unhide HN; omega)
      have c1 : wr.cell? ⟨b, o + (p + k), none⟩ = some (.int .u8 y) := ((unhide H).keep hK).2 (p + k) y hy
      have HY := hide hy
      clear hK hpc hy
      obtain rfl | rfl | rfl | rfl : k = 0 ∨ k = 1 ∨ k = 2 ∨ k = 3 := by omega
      · have j5 : (p : Int) + 0 < (n : Int) := by omega
        have j6 : (p : Int) < (n : Int) := by omega
        have ev : ∀ h, (({ data := #[110, 117, 108, 108] } : ByteArray)[0]'h).toNat = 110 := fun _ => rfl
        have c0 : wr.cell? ⟨b, o + p + 0, none⟩ = some (.int .u8 y) := by simpa [Nat.add_assoc] using c1
        have c00 : wr.cell? ⟨b, o + p, none⟩ = some (.int .u8 y) := by simpa using c1
        by_cases hyv : y = 110
        · subst hyv
          go_wp2
          go_quiet (fail)
          go_wp2
          go_roundw
          case rel => exact ⟨0 + 1, by omega, by go_num, (unhide HK).drewN _, (unhide HPC).snoc (unhide HY) rfl⟩
          case measure => simp [intOf]
        · have hb : (y == 110) = false := by simp [hyv]
          have hb' : (y != 110) = true := by simp [hyv]
          go_wp2
          go_quiet (fail)
          go_wp2
          go_ret
          exact ⟨(unhide HK).drewN _, .inl rfl⟩
      · have j5 : (p : Int) + 1 < (n : Int) := by omega
        have j6 : (p : Int) < (n : Int) := by omega
        have ev : ∀ h, (({ data := #[110, 117, 108, 108] } : ByteArray)[1]'h).toNat = 117 := fun _ => rfl
        have c0 : wr.cell? ⟨b, o + p + 1, none⟩ = some (.int .u8 y) := by simpa [Nat.add_assoc] using c1
        have c00 := c0
        by_cases hyv : y = 117
        · subst hyv
          go_wp2
          go_quiet (fail)
          go_wp2
          go_roundw
          case rel => exact ⟨1 + 1, by omega, by go_num, (unhide HK).drewN _, (unhide HPC).snoc (unhide HY) rfl⟩
          case measure => simp [intOf]
        · have hb : (y == 117) = false := by simp [hyv]
          have hb' : (y != 117) = true := by simp [hyv]
          go_wp2
          go_quiet (fail)
          go_wp2
          go_ret
          exact ⟨(unhide HK).drewN _, .inl rfl⟩
      · have j5 : (p : Int) + 2 < (n : Int) := by omega
        have j6 : (p : Int) < (n : Int) := by omega
        have ev : ∀ h, (({ data := #[110, 117, 108, 108] } : ByteArray)[2]'h).toNat = 108 := fun _ => rfl
        have c0 : wr.cell? ⟨b, o + p + 2, none⟩ = some (.int .u8 y) := by simpa [Nat.add_assoc] using c1
        have c00 := c0
        by_cases hyv : y = 108
        · subst hyv
          go_wp2
          go_quiet (fail)
          go_wp2
          go_roundw
          case rel => exact ⟨2 + 1, by omega, by go_num, (unhide HK).drewN _, (unhide HPC).snoc (unhide HY) rfl⟩
          case measure => simp [intOf]
        · have hb : (y == 108) = false := by simp [hyv]
          have hb' : (y != 108) = true := by simp [hyv]
          go_wp2
          go_quiet (fail)
          go_wp2
          go_ret
          exact ⟨(unhide HK).drewN _, .inl rfl⟩
      · have j5 : (p : Int) + 3 < (n : Int) := by omega
        have j6 : (p : Int) < (n : Int) := by omega
        have ev : ∀ h, (({ data := #[110, 117, 108, 108] } : ByteArray)[3]'h).toNat = 108 := fun _ => rfl
        have c0 : wr.cell? ⟨b, o + p + 3, none⟩ = some (.int .u8 y) := by simpa [Nat.add_assoc] using c1
        have c00 := c0
        by_cases hyv : y = 108
        · subst hyv
          go_wp2
          go_quiet (fail)
          go_wp2
          go_roundw
          case rel => exact ⟨3 + 1, by omega, by go_num, (unhide HK).drewN _, (unhide HPC).snoc (unhide HY) rfl⟩
          case measure => simp [intOf]
        · have hb : (y == 108) = false := by simp [hyv]
          have hb' : (y != 108) = true := by simp [hyv]
          go_wp2
          go_quiet (fail)
          go_wp2
          go_ret
          exact ⟨(unhide HK).drewN _, .inl rfl⟩
    · obtain rfl : k = 4 := by omega
      clear hK hpc
      go_wp2
      go_ret
      exact ⟨unhide HK, .inr ⟨p + 4, by go_num, by omega, by have := unhide HN; omega, unhide HPC⟩⟩
end Go.Proofs.Qxb6601492a
