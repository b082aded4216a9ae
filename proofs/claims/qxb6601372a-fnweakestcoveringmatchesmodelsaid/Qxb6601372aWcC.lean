/-
  Weakest covering: the closure (36), weakestCovering (29), its shim (18).
-/
import Derived.Test.Qxb6601372aWcB
set_option linter.unusedSimpArgs false
set_option linter.unusedVariables false
namespace Go.Proofs.Qxb6601372a
open Go.RowKit

theorem Pure.q {P : Program} {f : Nat} {args : Array Value} {w : World} {v : Value} (h : Calls P f args w (Pure w v)) : Calls P f args w (fun e w' => w' = w ∧ e = .returned v) := h

/-- m covers a and b. -/
def cb (n : Nat) (B : Nat → Nat → Bool) (a b m : Nat) : Bool := sub n B m a && sub n B m b

set_option maxRecDepth 100000 in
theorem clo36 (tB n x a b t3 t4 t5 : Nat) (p q : Option Addr) (c d : Nat) (A : Nat → Option Addr) (C : Nat → Nat) (B : Nat → Nat → Bool) (w : World) (h : Tab w tB n p q c d A C B) (hn : n ≤ 127) (hx : x < n) (ha : a < n) (hb : b < n)
    (h3 : w.cell? ⟨t3, 0, none⟩ = some (.pointer (some ⟨tB, 0, none⟩))) (h4 : w.cell? ⟨t4, 0, none⟩ = some (.int .i8 a)) (h5 : w.cell? ⟨t5, 0, none⟩ = some (.int .i8 b)) :
    Calls Try.prog 36 #[.int .i8 x, .pointer (some ⟨t3, 0, none⟩), .pointer (some ⟨t4, 0, none⟩), .pointer (some ⟨t5, 0, none⟩)] w (Pure w (.bool (cb n B a b x))) := by
  have C1 := hide (covers37 tB n x a p q c d A C B w h hn hx ha)
  have C2 := hide (covers37 tB n x b p q c d A C B w h hn hx hb)
  clear h
  unfold cb
  go_enter Try.func36, Try.ntmps36
  go_wp2_with fail
  refine (unhide C1).mono ?_
  rintro e w' ⟨hw, rfl⟩
  have hw := hw.symm
  subst hw
  simp only []
  cases e1 : sub n B x a
  · have E1 := hide e1
    clear e1 C1 C2
    go_wp2
    go_ret
    exact ⟨rfl, by rw [unhide E1]; rfl⟩
  · have E1 := hide e1
    clear e1 C1
    go_wp2_with fail
    refine (unhide C2).mono ?_
    rintro e w' ⟨hw, rfl⟩
    have hw := hw.symm
    subst hw
    simp only []
    cases e2 : sub n B x b
    all_goals
      have E2 := hide e2
      clear e2 C2
      go_wp2
      go_ret
      exact ⟨rfl, by rw [unhide E1, unhide E2]; rfl⟩

def mv (n : Nat) (B : Nat → Nat → Bool) (o : Option Nat) (k : Nat) : Bool :=
  match o with
  | none => true
  | some x => sub n B x k
/-- The scan's hold behind k modes. -/
def sc (n : Nat) (B : Nat → Nat → Bool) (a b : Nat) : Nat → Option Nat
  | 0 => none
  | k + 1 => if cb n B a b k && mv n B (sc n B a b k) k then some k else sc n B a b k
def ov : Option Nat → Int
  | none => -1
  | some x => x
/-- x is the weakest that covers a and b. -/
def Good (n : Nat) (B : Nat → Nat → Bool) (a b x : Nat) : Prop := x < n ∧ cb n B a b x = true ∧ ∀ m, m < n → m ≠ x → cb n B a b m = true → sub n B m x = true ∧ sub n B x m = false

theorem sc_lt {n : Nat} {B : Nat → Nat → Bool} {a b : Nat} : ∀ {k x : Nat}, sc n B a b k = some x → x < k ∧ cb n B a b x = true
  | 0, x, h => by simp [sc] at h
  | k + 1, x, h => by
    unfold sc at h
    split at h
    · rename_i hc
      cases h
      simp at hc
      exact ⟨by omega, hc.1⟩
    · have := sc_lt h
      exact ⟨by omega, this.2⟩

theorem sc_good {n : Nat} {B : Nat → Nat → Bool} {a b x : Nat} (g : Good n B a b x) : ∀ k, k ≤ n → x < k → sc n B a b k = some x
  | 0, _, h => by omega
  | k + 1, hk, h => by
    unfold sc
    by_cases hx : x = k
    · subst hx
      cases e : sc n B a b x with
      | none => simp [g.2.1, mv]
      | some y =>
        have hy := sc_lt e
        have := g.2.2 y (by omega) (by omega) hy.2
        simp [g.2.1, this.1, mv]
    · rw [sc_good g k (by omega) (by omega)]
      cases e : cb n B a b k with
      | false => simp
      | true =>
        have := g.2.2 k (by omega) (fun h => hx h.symm) e
        simp [this.2, mv]

theorem good_unique {n : Nat} {B : Nat → Nat → Bool} {a b x y : Nat} (g : Good n B a b x) (h : Good n B a b y) : x = y := by
  have h1 := sc_good g n (Nat.le_refl _) g.1
  have h2 := sc_good h n (Nat.le_refl _) h.1
  rw [h1] at h2
  exact Option.some.inj h2

/-- What weakestCovering hands back. -/
def WCO (w : World) (n : Nat) (B : Nat → Nat → Bool) (a b : Nat) (e : Ending) (w' : World) : Prop :=
  Kp [] w w' ∧ ((∃ x, Good n B a b x ∧ e = .returned (.tuple #[.int .i8 x, .bool true])) ∨ ((∀ x, ¬ Good n B a b x) ∧ e = .returned (.tuple #[.int .i8 0, .bool false])))

theorem Tab.keep {w w' : World} {tB n : Nat} {p q : Option Addr} {c d : Nat} {A : Nat → Option Addr} {C : Nat → Nat} {B : Nat → Nat → Bool} (h : Tab w tB n p q c d A C B) (k : Kp [] w w') : Tab w' tB n p q c d A C B :=
  ⟨k.blk h.1 (by simp), h.2.keep k⟩

set_option maxRecDepth 100000 in
set_option maxHeartbeats 4000000 in
theorem wc29 (tB n a b : Nat) (p q : Option Addr) (c d : Nat) (A : Nat → Option Addr) (C : Nat → Nat) (B : Nat → Nat → Bool) (w : World) (h : Tab w tB n p q c d A C B) (hn : n ≤ 127) (ha : a < n) (hb : b < n) :
    Calls Try.prog 29 #[.pointer (some ⟨tB, 0, none⟩), .int .i8 a, .int .i8 b] w (WCO w n B a b) := by
  obtain ⟨v, hv⟩ : ∃ v, v = ((w.alloc (.cells #[.pointer (some ⟨tB, 0, none⟩)] 29)).alloc (.cells #[.int .i8 a] 53)).alloc (.cells #[.int .i8 b] 53) := ⟨_, rfl⟩
  have k : Kp [] w v := by rw [hv]; exact (((Kp.refl _ _).alloc _).alloc _).alloc _
  have T := hide (h.keep k)
  have K1 := hide k
  have c3 : v.cell? ⟨w.heap.size, 0, none⟩ = some (.pointer (some ⟨tB, 0, none⟩)) := by
    rw [hv]
    have b0 : Blk (w.alloc (.cells #[.pointer (some ⟨tB, 0, none⟩)] 29)) w.heap.size _ 29 := Blk.new w _ _
    exact ((((Kp.refl [] _).alloc _).alloc _).blk b0 (by simp)).cell rfl
  have c4 : v.cell? ⟨w.heap.size + 1, 0, none⟩ = some (.int .i8 a) := by
    rw [hv]
    have b0 := Blk.new (w.alloc (.cells #[.pointer (some ⟨tB, 0, none⟩)] 29)) #[.int .i8 a] 53
    simp at b0
    exact (((Kp.refl [] _).alloc _).blk b0 (by simp)).cell rfl
  have c5 : v.cell? ⟨w.heap.size + 1 + 1, 0, none⟩ = some (.int .i8 b) := by
    rw [hv]
    have b0 := Blk.new ((w.alloc (.cells #[.pointer (some ⟨tB, 0, none⟩)] 29)).alloc (.cells #[.int .i8 a] 53)) #[.int .i8 b] 53
    simp at b0
    exact b0.cell rfl
  have L := hide (len38 tB n p q c d A C B v (unhide T))
  have CV : Hid (∀ x y, x < n → y < n → Calls Try.prog 37 #[.pointer (some ⟨tB, 0, none⟩), .int .i8 x, .int .i8 y] v (Pure v (.bool (sub n B x y)))) := fun x y hx hy => covers37 tB n x y p q c d A C B v (unhide T) hn hx hy
  have CL : Hid (∀ x, x < n → Calls Try.prog 36 #[.int .i8 x, .pointer (some ⟨w.heap.size, 0, none⟩), .pointer (some ⟨w.heap.size + 1, 0, none⟩), .pointer (some ⟨w.heap.size + 1 + 1, 0, none⟩)] v (Pure v (.bool (cb n B a b x)))) :=
    fun x hx => clo36 tB n x a b _ _ _ p q c d A C B v (unhide T) hn hx ha hb c3 c4 c5
  clear h k
  go_enter Try.func29, Try.ntmps29
  go_wp2_with fail
  rw [← hv]
  refine (unhide L).mono ?_
  rintro e w' ⟨hw, rfl⟩
  have hw := hw.symm
  subst hw
  simp only []
  have HV := hide hv
  clear hv
  go_wp2
  go_loop [9, 16] (fun s i => ∃ k : Nat, k ≤ n ∧ i = .int .i8 k ∧ s = .int .i8 (ov (sc n B a b k))) (fun _ i => n - (intOf i).toNat)
  case atStart => exact ⟨0, Nat.zero_le _, rfl, rfl⟩
  case round =>
    obtain ⟨k, hk, rfl, rfl⟩ := hrel
    by_cases hlt : k < n
    · have i1 : (k : Int) < (n : Int) := by omega
      have C1 := hide ((unhide CL) k hlt)
      cases e1 : cb n B a b k
      · have F : Hid (sc n B a b (k + 1) = sc n B a b k) := by show _ = _; rw [sc]; simp [e1]
        rw [e1] at C1
        clear e1
        go_wp2_with fail
        refine (unhide C1).mono ?_
        rintro e w' ⟨hw, rfl⟩
        have hw := hw.symm
        subst hw
        simp only []
        go_wp2
        go_round
        case rel => exact ⟨k + 1, by omega, by go_num, by rw [unhide F]⟩
        case measure => simp [intOf]; omega
      · rw [e1] at C1
        cases e2 : sc n B a b k with
        | none =>
          have F : Hid (sc n B a b (k + 1) = some k) := by show _ = _; rw [sc, e1, e2]; rfl
          simp only [ov]
          clear e1 e2
          go_wp2_with fail
          refine (unhide C1).mono ?_
          rintro e w' ⟨hw, rfl⟩
          have hw := hw.symm
          subst hw
          simp only []
          go_wp2
          go_round
          case rel => exact ⟨k + 1, by omega, by go_num, by rw [unhide F]⟩
          case measure => simp [intOf]; omega
        | some x =>
          have hx := (sc_lt e2).1
          have C2 := hide ((unhide CV) x k (by omega) hlt)
          have i2 : ¬ (x : Int) < 0 := by omega
          simp only [ov]
          cases e3 : sub n B x k
          · have F : Hid (sc n B a b (k + 1) = some x) := by show _ = _; rw [sc, e1, e2]; simp [mv, e3]
            rw [e3] at C2
            clear e1 e2 e3
            go_wp2_with fail
            refine (unhide C1).mono ?_
            rintro e w' ⟨hw, rfl⟩
            have hw := hw.symm
            subst hw
            simp only []
            go_wp2_with fail
            refine (unhide C2).mono ?_
            rintro e w' ⟨hw, rfl⟩
            have hw := hw.symm
            subst hw
            simp only []
            go_wp2
            go_round
            case rel => exact ⟨k + 1, by omega, by go_num, by rw [unhide F]⟩
            case measure => simp [intOf]; omega
          · have F : Hid (sc n B a b (k + 1) = some k) := by show _ = _; rw [sc, e1, e2]; simp [mv, e3]
            rw [e3] at C2
            clear e1 e2 e3
            go_wp2_with fail
            refine (unhide C1).mono ?_
            rintro e w' ⟨hw, rfl⟩
            have hw := hw.symm
            subst hw
            simp only []
            go_wp2_with fail
            refine (unhide C2).mono ?_
            rintro e w' ⟨hw, rfl⟩
            have hw := hw.symm
            subst hw
            simp only []
            go_wp2
            go_round
            case rel => exact ⟨k + 1, by omega, by go_num, by rw [unhide F]⟩
            case measure => simp [intOf]; omega
    · obtain rfl : k = n := by omega
      cases e2 : sc k B a b k with
      | none =>
        have F : Hid (∀ x, ¬ Good k B a b x) := fun x g => by
          have := sc_good g k (Nat.le_refl _) g.1
          rw [e2] at this
          cases this
        simp only [ov]
        clear e2
        go_wp2
        refine bodyPost_ret (v := .tuple #[.int .i8 0, .bool false]) (by simp [results, Try.results29, go_sem]) rfl ?_
        exact ⟨unhide K1, .inr ⟨unhide F, rfl⟩⟩
      | some x =>
        have hx := (sc_lt e2).1
        have E2 := hide e2
        have i2 : ¬ (x : Int) < 0 := by omega
        simp only [ov]
        clear e2
        go_wp2_with (go_at_call 38; refine (unhide L).mono ?_; rintro e w' ⟨hw, rfl⟩; have hw := hw.symm; subst hw)
        go_loop [39] (fun i => ∃ m : Nat, m ≤ k ∧ i = .int .i8 m ∧ ∀ j, j < m → j ≠ x → cb k B a b j = true → sub k B j x = true ∧ sub k B x j = false) (fun i => k - (intOf i).toNat)
        case atStart => exact ⟨0, Nat.zero_le _, rfl, fun j h => by omega⟩
        case round =>
          obtain ⟨m, hm, rfl, hrl⟩ := hrel
          have HR := hide hrl
          clear hrl
          by_cases hml : m < k
          · have i1 : (m : Int) < (k : Int) := by omega
            have C1 := hide ((unhide CL) m hml)
            have C2 := hide ((unhide CV) m x hml hx)
            have C3 := hide ((unhide CV) x m hx hml)
            by_cases hmx : m = x
            · have F : Hid (∀ j, j < m + 1 → j ≠ x → cb k B a b j = true → sub k B j x = true ∧ sub k B x j = false) := fun j hj hjx => (unhide HR) j (by omega) hjx
              subst hmx
              clear C1 C2 C3
              go_wp2
              go_round
              case rel => exact ⟨m + 1, by omega, by go_num, unhide F⟩
              case measure => simp [intOf]; omega
            · have hmx' : (m == x) = false := by simp [hmx]
              have N : Hid (cb k B a b m = true → (sub k B m x = false ∨ sub k B x m = true) → ∀ y, ¬ Good k B a b y) := fun h1 h2 y g => by
                have := sc_good g k (Nat.le_refl _) g.1
                rw [unhide E2] at this
                cases this
                have := g.2.2 m hml hmx h1
                rcases h2 with h2 | h2
                · rw [h2] at this; cases this.1
                · rw [h2] at this; cases this.2
              have Y : Hid ((cb k B a b m = true → sub k B m x = true ∧ sub k B x m = false) → ∀ j, j < m + 1 → j ≠ x → cb k B a b j = true → sub k B j x = true ∧ sub k B x j = false) := fun h0 j hj hjx => by
                by_cases hjm : j = m
                · subst hjm; exact h0
                · exact (unhide HR) j (by omega) hjx
              clear HR
              cases e1 : cb k B a b m
              · have Y' := hide ((unhide Y) (fun h => by rw [e1] at h; cases h))
                rw [e1] at C1
                clear e1 Y N
                go_wp2_with fail
                refine (unhide C1).mono ?_
                rintro e w' ⟨hw, rfl⟩
                have hw := hw.symm
                subst hw
                simp only []
                go_wp2
                go_round
                case rel => exact ⟨m + 1, by omega, by go_num, unhide Y'⟩
                case measure => simp [intOf]; omega
              · cases e3 : sub k B m x
                · have N' := hide ((unhide N) e1 (.inl e3))
                  rw [e1] at C1
                  rw [e3] at C2
                  clear e1 e3 Y N
                  go_wp2_with fail
                  refine (unhide C1).mono ?_
                  rintro e w' ⟨hw, rfl⟩
                  have hw := hw.symm
                  subst hw
                  simp only []
                  go_wp2_with fail
                  refine (unhide C2).mono ?_
                  rintro e w' ⟨hw, rfl⟩
                  have hw := hw.symm
                  subst hw
                  simp only []
                  go_wp2
                  refine bodyPost_ret (v := .tuple #[.int .i8 0, .bool false]) (by simp [results, Try.results29, go_sem]) rfl ?_
                  exact ⟨unhide K1, .inr ⟨unhide N', rfl⟩⟩
                · cases e4 : sub k B x m
                  · have Y' := hide ((unhide Y) (fun _ => ⟨e3, e4⟩))
                    rw [e1] at C1
                    rw [e3] at C2
                    rw [e4] at C3
                    clear e1 e3 e4 Y N
                    go_wp2_with fail
                    refine (unhide C1).mono ?_
                    rintro e w' ⟨hw, rfl⟩
                    have hw := hw.symm
                    subst hw
                    simp only []
                    go_wp2_with fail
                    refine (unhide C2).mono ?_
                    rintro e w' ⟨hw, rfl⟩
                    have hw := hw.symm
                    subst hw
                    simp only []
                    go_wp2_with fail
                    refine (unhide C3).mono ?_
                    rintro e w' ⟨hw, rfl⟩
                    have hw := hw.symm
                    subst hw
                    simp only []
                    go_wp2
                    go_round
                    case rel => exact ⟨m + 1, by omega, by go_num, unhide Y'⟩
                    case measure => simp [intOf]; omega
                  · have N' := hide ((unhide N) e1 (.inr e4))
                    rw [e1] at C1
                    rw [e3] at C2
                    rw [e4] at C3
                    clear e1 e3 e4 Y N
                    go_wp2_with fail
                    refine (unhide C1).mono ?_
                    rintro e w' ⟨hw, rfl⟩
                    have hw := hw.symm
                    subst hw
                    simp only []
                    go_wp2_with fail
                    refine (unhide C2).mono ?_
                    rintro e w' ⟨hw, rfl⟩
                    have hw := hw.symm
                    subst hw
                    simp only []
                    go_wp2_with fail
                    refine (unhide C3).mono ?_
                    rintro e w' ⟨hw, rfl⟩
                    have hw := hw.symm
                    subst hw
                    simp only []
                    go_wp2
                    refine bodyPost_ret (v := .tuple #[.int .i8 0, .bool false]) (by simp [results, Try.results29, go_sem]) rfl ?_
                    exact ⟨unhide K1, .inr ⟨unhide N', rfl⟩⟩
          · obtain rfl : m = k := by omega
            have G : Hid (Good m B a b x) := ⟨hx, (sc_lt (unhide E2)).2, unhide HR⟩
            clear HR
            go_wp2
            refine bodyPost_ret (v := .tuple #[.int .i8 x, .bool true]) (by simp [results, Try.results29, go_sem]) rfl ?_
            exact ⟨unhide K1, .inl ⟨x, unhide G, rfl⟩⟩

set_option maxRecDepth 100000 in
theorem zzwc18 (tB n a b : Nat) (p q : Option Addr) (c d : Nat) (A : Nat → Option Addr) (C : Nat → Nat) (B : Nat → Nat → Bool) (w : World) (h : Tab w tB n p q c d A C B) (hn : n ≤ 127) (ha : a < n) (hb : b < n) :
    Calls Try.prog 18 #[.pointer (some ⟨tB, 0, none⟩), .int .i8 a, .int .i8 b] w (WCO w n B a b) := by
  have H := hide (wc29 tB n a b p q c d A C B w h hn ha hb)
  clear h
  go_enter Try.func18, Try.ntmps18
  go_wp2_with fail
  refine (unhide H).mono ?_
  clear H
  rintro e w' ⟨k, ⟨x, g, rfl⟩ | ⟨g, rfl⟩⟩
  · have K := hide k
    have G := hide g
    clear k g
    simp only []
    go_wp2
    refine bodyPost_ret (v := .tuple #[.int .i8 x, .bool true]) (by simp [results, Try.results18, go_sem]) rfl ?_
    exact ⟨unhide K, .inl ⟨x, unhide G, rfl⟩⟩
  · have K := hide k
    have G := hide g
    clear k g
    simp only []
    go_wp2
    refine bodyPost_ret (v := .tuple #[.int .i8 0, .bool false]) (by simp [results, Try.results18, go_sem]) rfl ?_
    exact ⟨unhide K, .inr ⟨unhide G, rfl⟩⟩
end Go.Proofs.Qxb6601372a
