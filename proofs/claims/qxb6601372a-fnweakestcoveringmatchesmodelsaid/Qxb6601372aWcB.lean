/-
  Weakest covering: the table (17), Len (38), covers (37).
-/
import Derived.Test.Qxb6601372aWcA
set_option linter.unusedSimpArgs false
set_option linter.unusedVariables false
namespace Go.Proofs.Qxb6601372a
open Go.RowKit

def Pure (w : World) (v : Value) (e : Ending) (w' : World) : Prop := w' = w ∧ e = .returned v
def NewOut (w : World) (cs : Array Value) (t : TypeId) (e : Ending) (w' : World) : Prop := e = .returned (.pointer (some ⟨w.heap.size, 0, none⟩)) ∧ w' = w.alloc (.cells cs t)

set_option maxRecDepth 100000 in
theorem tab17 (p q : Option Addr) (n c m d : Nat) (w : World) : Calls Try.prog 17 #[.slice p n c, .slice q m d] w (NewOut w #[.slice p n c, .map none, .slice q m d, .map none, .slice none 0 0] 52) := by
  go_enter Try.func17, Try.ntmps17
  go_wp2
  go_ret
  exact ⟨rfl, rfl⟩

/-- Row x lies within row y. -/
def sub (n : Nat) (B : Nat → Nat → Bool) (x y : Nat) : Bool := (List.range n).all fun c => !B x c || B y c
theorem sub_iff {n : Nat} {B : Nat → Nat → Bool} {x y : Nat} : sub n B x y = true ↔ ∀ c, c < n → B x c = true → B y c = true := by
  unfold sub
  simp only [List.all_eq_true, List.mem_range, Bool.or_eq_true, Bool.not_eq_true']
  constructor
  · intro h c hc hx
    rcases h c hc with h | h
    · rw [hx] at h; cases h
    · exact h
  · intro h c hc
    cases hx : B x c
    · exact .inl rfl
    · exact .inr (h c hc hx)
theorem sub_of {n : Nat} {B : Nat → Nat → Bool} {x y : Nat} (h : ∀ c, c < n → B x c = true → B y c = true) : sub n B x y = true := sub_iff.2 h
theorem sub_not {n : Nat} {B : Nat → Nat → Bool} {x y c : Nat} (hc : c < n) (h1 : B x c = true) (h2 : B y c = false) : sub n B x y = false := by
  cases h : sub n B x y
  · rfl
  · have := sub_iff.1 h c hc h1
    rw [h2] at this
    cases this

/-- The table of the modes. -/
def Tab (w : World) (tB n : Nat) (p q : Option Addr) (c d : Nat) (A : Nat → Option Addr) (C : Nat → Nat) (B : Nat → Nat → Bool) : Prop :=
  Blk w tB [.slice p n c, .map none, .slice q n d, .map none, .slice none 0 0] 52 ∧ Grid w q n A (fun _ => n) C B

set_option maxRecDepth 100000 in
theorem len38 (tB n : Nat) (p q : Option Addr) (c d : Nat) (A : Nat → Option Addr) (C : Nat → Nat) (B : Nat → Nat → Bool) (w : World) (h : Tab w tB n p q c d A C B) :
    Calls Try.prog 38 #[.pointer (some ⟨tB, 0, none⟩)] w (Pure w (.int .i64 n)) := by
  have c0 : w.cell? ⟨tB, 0, none⟩ = some (.slice p n c) := h.1.cell rfl
  clear h
  go_enter Try.func38, Try.ntmps38
  go_wp2
  go_ret
  exact ⟨rfl, rfl⟩

set_option maxRecDepth 100000 in
theorem covers37 (tB n x y : Nat) (p q : Option Addr) (c d : Nat) (A : Nat → Option Addr) (C : Nat → Nat) (B : Nat → Nat → Bool) (w : World) (h : Tab w tB n p q c d A C B) (hn : n ≤ 127) (hx : x < n) (hy : y < n) :
    Calls Try.prog 37 #[.pointer (some ⟨tB, 0, none⟩), .int .i8 x, .int .i8 y] w (Pure w (.bool (sub n B x y))) := by
  have c0 : w.cell? ⟨tB, 2, none⟩ = some (.slice q n d) := h.1.cell rfl
  obtain ⟨b, o, rfl, hr⟩ := h.2.row (by omega)
  obtain ⟨b1, o1, e1, h1⟩ := h.2.bit hx (by omega)
  obtain ⟨b2, o2, e2, h2⟩ := h.2.bit hy (by omega)
  have cx : w.cell? ⟨b, o + x, none⟩ = some (.slice (some ⟨b1, o1, none⟩) n (C x)) := by rw [hr x hx, e1]
  have cy : w.cell? ⟨b, o + y, none⟩ = some (.slice (some ⟨b2, o2, none⟩) n (C y)) := by rw [hr y hy, e2]
  have H1 := hide h1
  have H2 := hide h2
  have i1 : (x : Int) < (n : Int) := by omega
  have i2 : (y : Int) < (n : Int) := by omega
  clear h hr h1 h2 e1 e2
  go_enter Try.func37, Try.ntmps37
  go_wp2
  go_loop [17] (fun i => ∃ k : Nat, k ≤ n ∧ i = .int .i64 k ∧ ∀ c, c < k → B x c = true → B y c = true) (fun i => n - (intOf i).toNat)
  case atStart => exact ⟨0, Nat.zero_le _, rfl, fun c h => by omega⟩
  case round =>
    obtain ⟨k, hk, rfl, hrl⟩ := hrel
    have HR := hide hrl
    clear hrl
    by_cases hlt : k < n
    · have d1 := (unhide H1) k hlt
      have d2 := (unhide H2) k hlt
      have i3 : (k : Int) < (n : Int) := by omega
      cases e1 : B x k <;> cases e2 : B y k <;> rw [e1] at d1 <;> rw [e2] at d2
      · have F : Hid (∀ c, c < k + 1 → B x c = true → B y c = true) := fun c hc h => by
          by_cases h' : c = k
          · rw [h', e1] at h; cases h
          · exact (unhide HR) c (by omega) h
        clear e1 e2 HR
        go_wp2
        go_round
        case rel => exact ⟨k + 1, by omega, by go_num, unhide F⟩
        case measure => simp [intOf]; omega
      · have F : Hid (∀ c, c < k + 1 → B x c = true → B y c = true) := fun c hc h => by
          by_cases h' : c = k
          · rw [h', e1] at h; cases h
          · exact (unhide HR) c (by omega) h
        clear e1 e2 HR
        go_wp2
        go_round
        case rel => exact ⟨k + 1, by omega, by go_num, unhide F⟩
        case measure => simp [intOf]; omega
      · have F := hide (sub_not hlt e1 e2)
        clear e1 e2 HR
        go_wp2
        go_ret
        exact ⟨rfl, by rw [unhide F]; rfl⟩
      · have F : Hid (∀ c, c < k + 1 → B x c = true → B y c = true) := fun c hc h => by
          by_cases h' : c = k
          · rw [h', e2]
          · exact (unhide HR) c (by omega) h
        clear e1 e2 HR
        go_wp2
        go_round
        case rel => exact ⟨k + 1, by omega, by go_num, unhide F⟩
        case measure => simp [intOf]; omega
    · have F : Hid (sub n B x y = true) := sub_of fun c hc h => (unhide HR) c (by omega) h
      clear HR
      go_wp2
      go_ret
      exact ⟨rfl, by rw [unhide F]; rfl⟩
end Go.Proofs.Qxb6601372a
