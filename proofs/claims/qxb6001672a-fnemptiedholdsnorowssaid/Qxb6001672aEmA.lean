/-
  Emptied: 'emptied' of a list (63, 64, 65, 66, 67).
-/
import Derived.Test.Qxb6001672aAdd
import Derived.Test.Qxb6001672aMem2
import Derived.Test.Qxb6001672aFound
set_option linter.unusedSimpArgs false
set_option linter.unusedVariables false
namespace Go.Proofs.Qxb6001672a
open Go.RowKit

/-- Every plain row stays a plain row of its length. -/
def Shp (w w' : World) : Prop := ∀ g xs t, Blk w g xs t → ∃ ys, Blk w' g ys t ∧ ys.length = xs.length
theorem Shp.refl (w : World) : Shp w w := fun g xs t h => ⟨xs, h, rfl⟩
theorem Shp.trans {a b c : World} (h : Shp a b) (k : Shp b c) : Shp a c := fun g xs t hb => by
  obtain ⟨ys, h1, h2⟩ := h g xs t hb
  obtain ⟨zs, h3, h4⟩ := k g ys t h1
  exact ⟨zs, h3, h4.trans h2⟩
theorem Shp.of_kp {w w' : World} {g : Nat} {xs ys : List Value} {t : TypeId} (k : Kp [g] w w') (h1 : Blk w g xs t) (h2 : Blk w' g ys t) (hl : ys.length = xs.length) : Shp w w' := fun j zs u hz => by
  by_cases hj : j = g
  · subst hj
    have e := h1.same hz
    subst e
    have ht : t = u := by
      unfold Blk at h1 hz
      rw [h1] at hz
      simp at hz
      exact hz
    subst ht
    exact ⟨ys, h2, hl⟩
  · exact ⟨zs, k.blk hz (by simpa using hj), rfl⟩
theorem Shp.keep {w w' : World} (k : Kp [] w w') : Shp w w' := fun g xs t h => ⟨xs, k.blk h (by simp), rfl⟩

/-- The room of a list that 'emptied' clears: a row of its own. -/
def Rm (w : World) (e : TypeId) (p : Option Addr) (c : Nat) : Prop := 0 < c → c ≤ 64 → ∃ g xs, p = some ⟨g, 0, none⟩ ∧ Blk w g xs e ∧ xs.length = c
theorem Rm.shp {w w' : World} {e : TypeId} {p : Option Addr} {c : Nat} (h : Rm w e p c) (k : Shp w w') : Rm w' e p c := fun h0 h1 => by
  obtain ⟨g, xs, hp, hb, hl⟩ := h h0 h1
  obtain ⟨ys, h2, h3⟩ := k g xs e hb
  exact ⟨g, ys, hp, h2, h3.trans hl⟩
def blkOf (p : Option Addr) : List Nat :=
  match p with
  | some a => [a.block]
  | none => []
/-- What 'emptied' leaves. -/
def EO (w : World) (e : TypeId) (p : Option Addr) (c : Nat) (en : Ending) (w' : World) : Prop :=
  ∃ p' c', en = .returned (.slice p' 0 c') ∧ (p' = p ∧ c' = c ∨ p' = none ∧ c' = 0) ∧ Rm w' e p' c' ∧ Shp w w' ∧ Kp (blkOf p) w w' ∧ w'.heap.size = w.heap.size

set_option maxRecDepth 100000 in
set_option maxHeartbeats 400000 in
theorem emp63 (p : Option Addr) (n c : Nat) (w : World) (hnc : n ≤ c) (hc : c ≤ 1048576) (hR : Rm w 2 p c) (hp0 : p = none → c = 0) : Calls Try.prog 63 #[.slice p n c] w (EO w 2 p c) := by
  have hz : ∀ w, (zeroValue 2).run Try.prog w = .ok (Value.int .i64 0) w := fun w => by kernel_rfl
  by_cases h1 : c ≤ 64
  case neg =>
    go_enter Try.func63, Try.ntmps63
    go_wp2
    go_ret
    exact ⟨none, 0, rfl, .inr ⟨rfl, rfl⟩, fun h => by omega, Shp.refl _, (Kp.refl _ _), rfl⟩
  have i1 : (c : Int) ≤ 64 := by omega
  have HR := hide hR
  clear hR
  by_cases h0 : 0 < c
  · obtain ⟨g, xs, rfl, hB, hl⟩ := (unhide HR) h0 h1
    have HB := hide hB
    have HL := hide hl
    clear hB hl hp0
    go_enter Try.func63, Try.ntmps63
    go_wp2_with (refine wpList_clear_blk rfl (.tmp 9) 27 rfl 2 (Value.int .i64 0) Try.underlying27 hz rfl rfl (some ⟨g, 0, none⟩) c c rfl g xs 2 (fun _ => ⟨rfl, unhide HB, Nat.le_of_eq (unhide HL).symm⟩) ?_; intro w1 hb1 hk1 hs1; have HB1 := hide (hb1 h0); have HK1 := hide hk1; have HS1 := hide hs1; clear hb1 hk1 hs1)
    go_ret
    have hk : Kp [g] w w1 := (unhide HK1).mono (fun k _ h => by simpa using (mem_gl.1 h).2)
    have hl2 : (List.replicate c (Value.int .i64 0) ++ xs.drop c).length = xs.length := by simp [unhide HL]
    exact ⟨_, _, rfl, .inl ⟨rfl, rfl⟩, fun _ _ => ⟨g, _, rfl, unhide HB1, by rw [hl2]; exact unhide HL⟩, Shp.of_kp hk (unhide HB) (unhide HB1) hl2, hk, unhide HS1⟩
  · obtain rfl : c = 0 := by omega
    obtain rfl : n = 0 := by omega
    clear hp0
    cases p with
    | none =>
      go_enter Try.func63, Try.ntmps63
      go_wp2_with (refine wpList_clear_blk rfl (.tmp 9) 27 rfl 2 (Value.int .i64 0) Try.underlying27 hz rfl rfl none 0 0 rfl 0 [] 2 (fun h => absurd h (by omega)) ?_; intro w1 hb1 hk1 hs1; have HK1 := hide hk1; have HS1 := hide hs1; clear hb1 hk1 hs1)
      go_ret
      have hk : Kp [] w w1 := (unhide HK1).mono (fun k _ h => by have := (mem_gl.1 h).1; omega)
      exact ⟨_, _, rfl, .inl ⟨rfl, rfl⟩, fun h => by omega, Shp.keep hk, hk.mono (by simp), unhide HS1⟩
    | some a =>
      go_enter Try.func63, Try.ntmps63
      go_wp2_with (refine wpList_clear_blk rfl (.tmp 9) 27 rfl 2 (Value.int .i64 0) Try.underlying27 hz rfl rfl (some a) 0 0 rfl 0 [] 2 (fun h => absurd h (by omega)) ?_; intro w1 hb1 hk1 hs1; have HK1 := hide hk1; have HS1 := hide hs1; clear hb1 hk1 hs1)
      go_ret
      have hk : Kp [] w w1 := (unhide HK1).mono (fun k _ h => by have := (mem_gl.1 h).1; omega)
      exact ⟨_, _, rfl, .inl ⟨rfl, rfl⟩, fun h => by omega, Shp.keep hk, hk.mono (by simp), unhide HS1⟩

set_option maxRecDepth 100000 in
set_option maxHeartbeats 400000 in
theorem emp64 (p : Option Addr) (n c : Nat) (w : World) (hnc : n ≤ c) (hc : c ≤ 1048576) (hR : Rm w 9 p c) (hp0 : p = none → c = 0) : Calls Try.prog 64 #[.slice p n c] w (EO w 9 p c) := by
  have hz : ∀ w, (zeroValue 9).run Try.prog w = .ok (Value.string ByteArray.empty) w := fun w => by kernel_rfl
  by_cases h1 : c ≤ 64
  case neg =>
    go_enter Try.func64, Try.ntmps64
    go_wp2
    go_ret
    exact ⟨none, 0, rfl, .inr ⟨rfl, rfl⟩, fun h => by omega, Shp.refl _, (Kp.refl _ _), rfl⟩
  have i1 : (c : Int) ≤ 64 := by omega
  have HR := hide hR
  clear hR
  by_cases h0 : 0 < c
  · obtain ⟨g, xs, rfl, hB, hl⟩ := (unhide HR) h0 h1
    have HB := hide hB
    have HL := hide hl
    clear hB hl hp0
    go_enter Try.func64, Try.ntmps64
    go_wp2_with (refine wpList_clear_blk rfl (.tmp 9) 48 rfl 9 (Value.string ByteArray.empty) Try.underlying48 hz rfl rfl (some ⟨g, 0, none⟩) c c rfl g xs 9 (fun _ => ⟨rfl, unhide HB, Nat.le_of_eq (unhide HL).symm⟩) ?_; intro w1 hb1 hk1 hs1; have HB1 := hide (hb1 h0); have HK1 := hide hk1; have HS1 := hide hs1; clear hb1 hk1 hs1)
    go_ret
    have hk : Kp [g] w w1 := (unhide HK1).mono (fun k _ h => by simpa using (mem_gl.1 h).2)
    have hl2 : (List.replicate c (Value.string ByteArray.empty) ++ xs.drop c).length = xs.length := by simp [unhide HL]
    exact ⟨_, _, rfl, .inl ⟨rfl, rfl⟩, fun _ _ => ⟨g, _, rfl, unhide HB1, by rw [hl2]; exact unhide HL⟩, Shp.of_kp hk (unhide HB) (unhide HB1) hl2, hk, unhide HS1⟩
  · obtain rfl : c = 0 := by omega
    obtain rfl : n = 0 := by omega
    clear hp0
    cases p with
    | none =>
      go_enter Try.func64, Try.ntmps64
      go_wp2_with (refine wpList_clear_blk rfl (.tmp 9) 48 rfl 9 (Value.string ByteArray.empty) Try.underlying48 hz rfl rfl none 0 0 rfl 0 [] 9 (fun h => absurd h (by omega)) ?_; intro w1 hb1 hk1 hs1; have HK1 := hide hk1; have HS1 := hide hs1; clear hb1 hk1 hs1)
      go_ret
      have hk : Kp [] w w1 := (unhide HK1).mono (fun k _ h => by have := (mem_gl.1 h).1; omega)
      exact ⟨_, _, rfl, .inl ⟨rfl, rfl⟩, fun h => by omega, Shp.keep hk, hk.mono (by simp), unhide HS1⟩
    | some a =>
      go_enter Try.func64, Try.ntmps64
      go_wp2_with (refine wpList_clear_blk rfl (.tmp 9) 48 rfl 9 (Value.string ByteArray.empty) Try.underlying48 hz rfl rfl (some a) 0 0 rfl 0 [] 9 (fun h => absurd h (by omega)) ?_; intro w1 hb1 hk1 hs1; have HK1 := hide hk1; have HS1 := hide hs1; clear hb1 hk1 hs1)
      go_ret
      have hk : Kp [] w w1 := (unhide HK1).mono (fun k _ h => by have := (mem_gl.1 h).1; omega)
      exact ⟨_, _, rfl, .inl ⟨rfl, rfl⟩, fun h => by omega, Shp.keep hk, hk.mono (by simp), unhide HS1⟩

set_option maxRecDepth 100000 in
set_option maxHeartbeats 400000 in
theorem emp65 (p : Option Addr) (n c : Nat) (w : World) (hnc : n ≤ c) (hc : c ≤ 1048576) (hR : Rm w 4 p c) (hp0 : p = none → c = 0) : Calls Try.prog 65 #[.slice p n c] w (EO w 4 p c) := by
  have hz : ∀ w, (zeroValue 4).run Try.prog w = .ok (Value.bool false) w := fun w => by kernel_rfl
  by_cases h1 : c ≤ 64
  case neg =>
    go_enter Try.func65, Try.ntmps65
    go_wp2
    go_ret
    exact ⟨none, 0, rfl, .inr ⟨rfl, rfl⟩, fun h => by omega, Shp.refl _, (Kp.refl _ _), rfl⟩
  have i1 : (c : Int) ≤ 64 := by omega
  have HR := hide hR
  clear hR
  by_cases h0 : 0 < c
  · obtain ⟨g, xs, rfl, hB, hl⟩ := (unhide HR) h0 h1
    have HB := hide hB
    have HL := hide hl
    clear hB hl hp0
    go_enter Try.func65, Try.ntmps65
    go_wp2_with (refine wpList_clear_blk rfl (.tmp 9) 38 rfl 4 (Value.bool false) Try.underlying38 hz rfl rfl (some ⟨g, 0, none⟩) c c rfl g xs 4 (fun _ => ⟨rfl, unhide HB, Nat.le_of_eq (unhide HL).symm⟩) ?_; intro w1 hb1 hk1 hs1; have HB1 := hide (hb1 h0); have HK1 := hide hk1; have HS1 := hide hs1; clear hb1 hk1 hs1)
    go_ret
    have hk : Kp [g] w w1 := (unhide HK1).mono (fun k _ h => by simpa using (mem_gl.1 h).2)
    have hl2 : (List.replicate c (Value.bool false) ++ xs.drop c).length = xs.length := by simp [unhide HL]
    exact ⟨_, _, rfl, .inl ⟨rfl, rfl⟩, fun _ _ => ⟨g, _, rfl, unhide HB1, by rw [hl2]; exact unhide HL⟩, Shp.of_kp hk (unhide HB) (unhide HB1) hl2, hk, unhide HS1⟩
  · obtain rfl : c = 0 := by omega
    obtain rfl : n = 0 := by omega
    clear hp0
    cases p with
    | none =>
      go_enter Try.func65, Try.ntmps65
      go_wp2_with (refine wpList_clear_blk rfl (.tmp 9) 38 rfl 4 (Value.bool false) Try.underlying38 hz rfl rfl none 0 0 rfl 0 [] 4 (fun h => absurd h (by omega)) ?_; intro w1 hb1 hk1 hs1; have HK1 := hide hk1; have HS1 := hide hs1; clear hb1 hk1 hs1)
      go_ret
      have hk : Kp [] w w1 := (unhide HK1).mono (fun k _ h => by have := (mem_gl.1 h).1; omega)
      exact ⟨_, _, rfl, .inl ⟨rfl, rfl⟩, fun h => by omega, Shp.keep hk, hk.mono (by simp), unhide HS1⟩
    | some a =>
      go_enter Try.func65, Try.ntmps65
      go_wp2_with (refine wpList_clear_blk rfl (.tmp 9) 38 rfl 4 (Value.bool false) Try.underlying38 hz rfl rfl (some a) 0 0 rfl 0 [] 4 (fun h => absurd h (by omega)) ?_; intro w1 hb1 hk1 hs1; have HK1 := hide hk1; have HS1 := hide hs1; clear hb1 hk1 hs1)
      go_ret
      have hk : Kp [] w w1 := (unhide HK1).mono (fun k _ h => by have := (mem_gl.1 h).1; omega)
      exact ⟨_, _, rfl, .inl ⟨rfl, rfl⟩, fun h => by omega, Shp.keep hk, hk.mono (by simp), unhide HS1⟩

set_option maxRecDepth 100000 in
set_option maxHeartbeats 400000 in
theorem emp66 (p : Option Addr) (n c : Nat) (w : World) (hnc : n ≤ c) (hc : c ≤ 1048576) (hR : Rm w 53 p c) (hp0 : p = none → c = 0) : Calls Try.prog 66 #[.slice p n c] w (EO w 53 p c) := by
  have hz : ∀ w, (zeroValue 53).run Try.prog w = .ok (Value.slice none 0 0) w := fun w => by kernel_rfl
  by_cases h1 : c ≤ 64
  case neg =>
    go_enter Try.func66, Try.ntmps66
    go_wp2
    go_ret
    exact ⟨none, 0, rfl, .inr ⟨rfl, rfl⟩, fun h => by omega, Shp.refl _, (Kp.refl _ _), rfl⟩
  have i1 : (c : Int) ≤ 64 := by omega
  have HR := hide hR
  clear hR
  by_cases h0 : 0 < c
  · obtain ⟨g, xs, rfl, hB, hl⟩ := (unhide HR) h0 h1
    have HB := hide hB
    have HL := hide hl
    clear hB hl hp0
    go_enter Try.func66, Try.ntmps66
    go_wp2_with (refine wpList_clear_blk rfl (.tmp 9) 51 rfl 53 (Value.slice none 0 0) Try.underlying51 hz rfl rfl (some ⟨g, 0, none⟩) c c rfl g xs 53 (fun _ => ⟨rfl, unhide HB, Nat.le_of_eq (unhide HL).symm⟩) ?_; intro w1 hb1 hk1 hs1; have HB1 := hide (hb1 h0); have HK1 := hide hk1; have HS1 := hide hs1; clear hb1 hk1 hs1)
    go_ret
    have hk : Kp [g] w w1 := (unhide HK1).mono (fun k _ h => by simpa using (mem_gl.1 h).2)
    have hl2 : (List.replicate c (Value.slice none 0 0) ++ xs.drop c).length = xs.length := by simp [unhide HL]
    exact ⟨_, _, rfl, .inl ⟨rfl, rfl⟩, fun _ _ => ⟨g, _, rfl, unhide HB1, by rw [hl2]; exact unhide HL⟩, Shp.of_kp hk (unhide HB) (unhide HB1) hl2, hk, unhide HS1⟩
  · obtain rfl : c = 0 := by omega
    obtain rfl : n = 0 := by omega
    clear hp0
    cases p with
    | none =>
      go_enter Try.func66, Try.ntmps66
      go_wp2_with (refine wpList_clear_blk rfl (.tmp 9) 51 rfl 53 (Value.slice none 0 0) Try.underlying51 hz rfl rfl none 0 0 rfl 0 [] 53 (fun h => absurd h (by omega)) ?_; intro w1 hb1 hk1 hs1; have HK1 := hide hk1; have HS1 := hide hs1; clear hb1 hk1 hs1)
      go_ret
      have hk : Kp [] w w1 := (unhide HK1).mono (fun k _ h => by have := (mem_gl.1 h).1; omega)
      exact ⟨_, _, rfl, .inl ⟨rfl, rfl⟩, fun h => by omega, Shp.keep hk, hk.mono (by simp), unhide HS1⟩
    | some a =>
      go_enter Try.func66, Try.ntmps66
      go_wp2_with (refine wpList_clear_blk rfl (.tmp 9) 51 rfl 53 (Value.slice none 0 0) Try.underlying51 hz rfl rfl (some a) 0 0 rfl 0 [] 53 (fun h => absurd h (by omega)) ?_; intro w1 hb1 hk1 hs1; have HK1 := hide hk1; have HS1 := hide hs1; clear hb1 hk1 hs1)
      go_ret
      have hk : Kp [] w w1 := (unhide HK1).mono (fun k _ h => by have := (mem_gl.1 h).1; omega)
      exact ⟨_, _, rfl, .inl ⟨rfl, rfl⟩, fun h => by omega, Shp.keep hk, hk.mono (by simp), unhide HS1⟩

set_option maxRecDepth 100000 in
set_option maxHeartbeats 400000 in
theorem emp67 (p : Option Addr) (n c : Nat) (w : World) (hnc : n ≤ c) (hc : c ≤ 1048576) (hR : Rm w 48 p c) (hp0 : p = none → c = 0) : Calls Try.prog 67 #[.slice p n c] w (EO w 48 p c) := by
  have hz : ∀ w, (zeroValue 48).run Try.prog w = .ok (Value.slice none 0 0) w := fun w => by kernel_rfl
  by_cases h1 : c ≤ 64
  case neg =>
    go_enter Try.func67, Try.ntmps67
    go_wp2
    go_ret
    exact ⟨none, 0, rfl, .inr ⟨rfl, rfl⟩, fun h => by omega, Shp.refl _, (Kp.refl _ _), rfl⟩
  have i1 : (c : Int) ≤ 64 := by omega
  have HR := hide hR
  clear hR
  by_cases h0 : 0 < c
  · obtain ⟨g, xs, rfl, hB, hl⟩ := (unhide HR) h0 h1
    have HB := hide hB
    have HL := hide hl
    clear hB hl hp0
    go_enter Try.func67, Try.ntmps67
    go_wp2_with (refine wpList_clear_blk rfl (.tmp 9) 52 rfl 48 (Value.slice none 0 0) Try.underlying52 hz rfl rfl (some ⟨g, 0, none⟩) c c rfl g xs 48 (fun _ => ⟨rfl, unhide HB, Nat.le_of_eq (unhide HL).symm⟩) ?_; intro w1 hb1 hk1 hs1; have HB1 := hide (hb1 h0); have HK1 := hide hk1; have HS1 := hide hs1; clear hb1 hk1 hs1)
    go_ret
    have hk : Kp [g] w w1 := (unhide HK1).mono (fun k _ h => by simpa using (mem_gl.1 h).2)
    have hl2 : (List.replicate c (Value.slice none 0 0) ++ xs.drop c).length = xs.length := by simp [unhide HL]
    exact ⟨_, _, rfl, .inl ⟨rfl, rfl⟩, fun _ _ => ⟨g, _, rfl, unhide HB1, by rw [hl2]; exact unhide HL⟩, Shp.of_kp hk (unhide HB) (unhide HB1) hl2, hk, unhide HS1⟩
  · obtain rfl : c = 0 := by omega
    obtain rfl : n = 0 := by omega
    clear hp0
    cases p with
    | none =>
      go_enter Try.func67, Try.ntmps67
      go_wp2_with (refine wpList_clear_blk rfl (.tmp 9) 52 rfl 48 (Value.slice none 0 0) Try.underlying52 hz rfl rfl none 0 0 rfl 0 [] 48 (fun h => absurd h (by omega)) ?_; intro w1 hb1 hk1 hs1; have HK1 := hide hk1; have HS1 := hide hs1; clear hb1 hk1 hs1)
      go_ret
      have hk : Kp [] w w1 := (unhide HK1).mono (fun k _ h => by have := (mem_gl.1 h).1; omega)
      exact ⟨_, _, rfl, .inl ⟨rfl, rfl⟩, fun h => by omega, Shp.keep hk, hk.mono (by simp), unhide HS1⟩
    | some a =>
      go_enter Try.func67, Try.ntmps67
      go_wp2_with (refine wpList_clear_blk rfl (.tmp 9) 52 rfl 48 (Value.slice none 0 0) Try.underlying52 hz rfl rfl (some a) 0 0 rfl 0 [] 48 (fun h => absurd h (by omega)) ?_; intro w1 hb1 hk1 hs1; have HK1 := hide hk1; have HS1 := hide hs1; clear hb1 hk1 hs1)
      go_ret
      have hk : Kp [] w w1 := (unhide HK1).mono (fun k _ h => by have := (mem_gl.1 h).1; omega)
      exact ⟨_, _, rfl, .inl ⟨rfl, rfl⟩, fun h => by omega, Shp.keep hk, hk.mono (by simp), unhide HS1⟩
end Go.Proofs.Qxb6001672a
