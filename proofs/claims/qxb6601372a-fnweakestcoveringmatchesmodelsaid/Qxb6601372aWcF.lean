/-
  FnWeakestCoveringMatchesModel (5): wcSubset (31), wcCoversBoth (30), wcModel (19), THE WALK.
-/
import Derived.Test.Qxb6601372aWcE
set_option linter.unusedSimpArgs false
set_option linter.unusedVariables false
namespace Go.Proofs.Qxb6601372a
open Go.RowKit

set_option maxRecDepth 100000 in
theorem sub31 (n x y c : Nat) (q : Option Addr) (A : Nat → Option Addr) (C : Nat → Nat) (B : Nat → Nat → Bool) (w : World) (h : Grid w q n A (fun _ => n) C B) (hn : n ≤ 127) (hx : x < n) (hy : y < n) :
    Calls Try.prog 31 #[.slice q n c, .int .i64 x, .int .i64 y] w (Pure w (.bool (sub n B x y))) := by
  obtain ⟨b, o, rfl, hr⟩ := h.row (by omega)
  obtain ⟨b1, o1, e1, h1⟩ := h.bit hx (by omega)
  obtain ⟨b2, o2, e2, h2⟩ := h.bit hy (by omega)
  have cx : w.cell? ⟨b, o + x, none⟩ = some (.slice (some ⟨b1, o1, none⟩) n (C x)) := by rw [hr x hx, e1]
  have cy : w.cell? ⟨b, o + y, none⟩ = some (.slice (some ⟨b2, o2, none⟩) n (C y)) := by rw [hr y hy, e2]
  have H1 := hide h1
  have H2 := hide h2
  have i1 : (x : Int) < (n : Int) := by omega
  have i2 : (y : Int) < (n : Int) := by omega
  clear h hr h1 h2 e1 e2
  go_enter Try.func31, Try.ntmps31
  go_wp2
  go_loop [7] (fun i => ∃ k : Nat, k ≤ n ∧ i = .int .i64 k ∧ ∀ c, c < k → B x c = true → B y c = true) (fun i => n - (intOf i).toNat)
  case atStart => exact ⟨0, Nat.zero_le _, rfl, fun c h => by omega⟩
  case round =>
    obtain ⟨k, hk, rfl, hrl⟩ := hrel
    have HR := hide hrl
    clear hrl
    by_cases hlt : k < n
    · have d1 := (unhide H1) k hlt
      have d2 := (unhide H2) k hlt
      have i3 : (k : Int) < (n : Int) := by omega
      cases e1 : B x k <;> cases e2 : B y k <;> rw [e1] at d1 <;> rw [e2] at d2
      · have F : Hid (∀ c, c < k + 1 → B x c = true → B y c = true) := fun c hc h => by
          by_cases h' : c = k
          · rw [h', e1] at h; cases h
          · exact (unhide HR) c (by omega) h
        clear e1 e2 HR
        go_wp2
        go_round
        case rel => exact ⟨k + 1, by omega, by go_num, unhide F⟩
        case measure => simp [intOf]; omega
      · have F : Hid (∀ c, c < k + 1 → B x c = true → B y c = true) := fun c hc h => by
          by_cases h' : c = k
          · rw [h', e1] at h; cases h
          · exact (unhide HR) c (by omega) h
        clear e1 e2 HR
        go_wp2
        go_round
        case rel => exact ⟨k + 1, by omega, by go_num, unhide F⟩
        case measure => simp [intOf]; omega
      · have F := hide (sub_not hlt e1 e2)
        clear e1 e2 HR
        go_wp2
        go_ret
        exact ⟨rfl, by rw [unhide F]; rfl⟩
      · have F : Hid (∀ c, c < k + 1 → B x c = true → B y c = true) := fun c hc h => by
          by_cases h' : c = k
          · rw [h', e2]
          · exact (unhide HR) c (by omega) h
        clear e1 e2 HR
        go_wp2
        go_round
        case rel => exact ⟨k + 1, by omega, by go_num, unhide F⟩
        case measure => simp [intOf]; omega
    · have F : Hid (sub n B x y = true) := sub_of fun c hc h => (unhide HR) c (by omega) h
      clear HR
      go_wp2
      go_ret
      exact ⟨rfl, by rw [unhide F]; rfl⟩

set_option maxRecDepth 100000 in
theorem cb30 (n x a b c : Nat) (q : Option Addr) (A : Nat → Option Addr) (C : Nat → Nat) (B : Nat → Nat → Bool) (w : World) (h : Grid w q n A (fun _ => n) C B) (hn : n ≤ 127) (hx : x < n) (ha : a < n) (hb : b < n) :
    Calls Try.prog 30 #[.slice q n c, .int .i64 x, .int .i64 a, .int .i64 b] w (Pure w (.bool (cb n B a b x))) := by
  have C1 := hide (sub31 n x a c q A C B w h hn hx ha)
  have C2 := hide (sub31 n x b c q A C B w h hn hx hb)
  clear h
  unfold cb
  go_enter Try.func30, Try.ntmps30
  go_wp2_with fail
  refine (unhide C1).mono ?_
  rintro e w' ⟨hw, rfl⟩
  have hw := hw.symm
  subst hw
  simp only []
  cases e1 : sub n B x a
  · have E1 := hide e1
    clear e1 C1 C2
    go_wp2
    go_ret
    exact ⟨rfl, by rw [unhide E1]; rfl⟩
  · have E1 := hide e1
    clear e1 C1
    go_wp2_with fail
    refine (unhide C2).mono ?_
    rintro e w' ⟨hw, rfl⟩
    have hw := hw.symm
    subst hw
    simp only []
    cases e2 : sub n B x b
    all_goals
      have E2 := hide e2
      clear e2 C2
      go_wp2
      go_ret
      exact ⟨rfl, by rw [unhide E1, unhide E2]; rfl⟩

/-- What the model hands back. -/
def MO (w : World) (n : Nat) (B : Nat → Nat → Bool) (a b : Nat) (e : Ending) (w' : World) : Prop :=
  w' = w ∧ ((∃ x, Good n B a b x ∧ e = .returned (.tuple #[.int .i64 x, .bool true])) ∨ ((∀ x, ¬ Good n B a b x) ∧ e = .returned (.tuple #[.int .i64 0, .bool false])))

set_option maxRecDepth 100000 in
set_option maxHeartbeats 1000000 in
theorem model19 (n a b c : Nat) (q : Option Addr) (A : Nat → Option Addr) (C : Nat → Nat) (B : Nat → Nat → Bool) (w : World) (h : Grid w q n A (fun _ => n) C B) (hn : n ≤ 127) (ha : a < n) (hb : b < n) :
    Calls Try.prog 19 #[.slice q n c, .int .i64 a, .int .i64 b] w (MO w n B a b) := by
  have CV : Hid (∀ x y, x < n → y < n → Calls Try.prog 31 #[.slice q n c, .int .i64 x, .int .i64 y] w (Pure w (.bool (sub n B x y)))) := fun x y hx hy => sub31 n x y c q A C B w h hn hx hy
  have CL : Hid (∀ x, x < n → Calls Try.prog 30 #[.slice q n c, .int .i64 x, .int .i64 a, .int .i64 b] w (Pure w (.bool (cb n B a b x)))) := fun x hx => cb30 n x a b c q A C B w h hn hx ha hb
  clear h
  go_enter Try.func19, Try.ntmps19
  go_wp2
  go_loop [9] (fun i => ∃ k : Nat, k ≤ n ∧ i = .int .i64 k ∧ ∀ x, x < k → ¬ Good n B a b x) (fun i => n - (intOf i).toNat)
  case atStart => exact ⟨0, Nat.zero_le _, rfl, fun x h => by omega⟩
  case round =>
    obtain ⟨k, hk, rfl, hrl⟩ := hrel
    by_cases hlt : k < n
    · have NX : Hid (¬ Good n B a b k → ∀ x, x < k + 1 → ¬ Good n B a b x) := fun h0 x hx => by
        by_cases hxk : x = k
        · subst hxk; exact h0
        · exact hrl x (by omega)
      clear hrl
      have i1 : (k : Int) < (n : Int) := by omega
      have C1 := hide ((unhide CL) k hlt)
      cases e1 : cb n B a b k
      · have N' := hide ((unhide NX) (fun g => by have := g.2.1; rw [e1] at this; cases this))
        rw [e1] at C1
        clear e1 NX
        go_wp2_with fail
        refine (unhide C1).mono ?_
        rintro e w' ⟨hw, rfl⟩
        have hw := hw.symm
        subst hw
        simp only []
        go_wp2
        go_round
        case rel => exact ⟨k + 1, by omega, by go_num, unhide N'⟩
        case measure => simp [intOf]; omega
      · have E1 := hide e1
        rw [e1] at C1
        clear e1
        go_wp2_with fail
        refine (unhide C1).mono ?_
        rintro e w' ⟨hw, rfl⟩
        have hw := hw.symm
        subst hw
        simp only []
        go_wp2
        go_loop [10, 11] (fun g i => ∃ m : Nat, m ≤ n ∧ g = .bool true ∧ i = .int .i64 m ∧ ∀ j, j < m → j ≠ k → cb n B a b j = true → sub n B j k = true ∧ sub n B k j = false) (fun _ i => n - (intOf i).toNat)
        case atStart => exact ⟨0, Nat.zero_le _, rfl, rfl, fun j h => by omega⟩
        case round =>
          obtain ⟨m, hm, rfl, rfl, hrl⟩ := hrel
          have HR := hide hrl
          clear hrl
          by_cases hml : m < n
          · have i3 : (m : Int) < (n : Int) := by omega
            have C1 := hide ((unhide CL) m hml)
            have C2 := hide ((unhide CV) m k hml hlt)
            have C3 := hide ((unhide CV) k m hlt hml)
            by_cases hmx : m = k
            · have F : Hid (∀ j, j < m + 1 → j ≠ k → cb n B a b j = true → sub n B j k = true ∧ sub n B k j = false) := fun j hj hjx => (unhide HR) j (by omega) hjx
              subst hmx
              clear C1 C2 C3
              go_wp2
              go_round
              case rel => exact ⟨m + 1, by omega, rfl, by go_num, unhide F⟩
              case measure => simp [intOf]; omega
            · have hmx' : (m == k) = false := by simp [hmx]
              have N : Hid (cb n B a b m = true → (sub n B m k = false ∨ sub n B k m = true) → ∀ x, x < k + 1 → ¬ Good n B a b x) := fun h1 h2 => (unhide NX) fun g => by
                have := g.2.2 m hml hmx h1
                rcases h2 with h2 | h2
                · rw [h2] at this; cases this.1
                · rw [h2] at this; cases this.2
              have Y : Hid ((cb n B a b m = true → sub n B m k = true ∧ sub n B k m = false) → ∀ j, j < m + 1 → j ≠ k → cb n B a b j = true → sub n B j k = true ∧ sub n B k j = false) := fun h0 j hj hjx => by
                by_cases hjm : j = m
                · subst hjm; exact h0
                · exact (unhide HR) j (by omega) hjx
              clear HR
              cases e1 : cb n B a b m
              · have Y' := hide ((unhide Y) (fun h => by rw [e1] at h; cases h))
                rw [e1] at C1
                clear e1 Y N
                go_wp2_with fail
                refine (unhide C1).mono ?_
                rintro e w' ⟨hw, rfl⟩
                have hw := hw.symm
                subst hw
                simp only []
                go_wp2
                go_round
                case rel => exact ⟨m + 1, by omega, rfl, by go_num, unhide Y'⟩
                case measure => simp [intOf]; omega
              · cases e3 : sub n B m k
                · have N' := hide ((unhide N) e1 (.inl e3))
                  rw [e1] at C1
                  rw [e3] at C2
                  clear e1 e3 Y N
                  go_wp2_with fail
                  refine (unhide C1).mono ?_
                  rintro e w' ⟨hw, rfl⟩
                  have hw := hw.symm
                  subst hw
                  simp only []
                  go_wp2_with fail
                  refine (unhide C2).mono ?_
                  rintro e w' ⟨hw, rfl⟩
                  have hw := hw.symm
                  subst hw
                  simp only []
                  go_wp2
                  go_round
                  case rel => exact ⟨k + 1, by omega, by go_num, unhide N'⟩
                  case measure => simp [intOf]; omega
                · cases e4 : sub n B k m
                  · have Y' := hide ((unhide Y) (fun _ => ⟨e3, e4⟩))
                    rw [e1] at C1
                    rw [e3] at C2
                    rw [e4] at C3
                    clear e1 e3 e4 Y N
                    go_wp2_with fail
                    refine (unhide C1).mono ?_
                    rintro e w' ⟨hw, rfl⟩
                    have hw := hw.symm
                    subst hw
                    simp only []
                    go_wp2_with fail
                    refine (unhide C2).mono ?_
                    rintro e w' ⟨hw, rfl⟩
                    have hw := hw.symm
                    subst hw
                    simp only []
                    go_wp2_with fail
                    refine (unhide C3).mono ?_
                    rintro e w' ⟨hw, rfl⟩
                    have hw := hw.symm
                    subst hw
                    simp only []
                    go_wp2
                    go_round
                    case rel => exact ⟨m + 1, by omega, rfl, by go_num, unhide Y'⟩
                    case measure => simp [intOf]; omega
                  · have N' := hide ((unhide N) e1 (.inr e4))
                    rw [e1] at C1
                    rw [e3] at C2
                    rw [e4] at C3
                    clear e1 e3 e4 Y N
                    go_wp2_with fail
                    refine (unhide C1).mono ?_
                    rintro e w' ⟨hw, rfl⟩
                    have hw := hw.symm
                    subst hw
                    simp only []
                    go_wp2_with fail
                    refine (unhide C2).mono ?_
                    rintro e w' ⟨hw, rfl⟩
                    have hw := hw.symm
                    subst hw
                    simp only []
                    go_wp2_with fail
                    refine (unhide C3).mono ?_
                    rintro e w' ⟨hw, rfl⟩
                    have hw := hw.symm
                    subst hw
                    simp only []
                    go_wp2
                    go_round
                    case rel => exact ⟨k + 1, by omega, by go_num, unhide N'⟩
                    case measure => simp [intOf]; omega
          · obtain rfl : m = n := by omega
            have G : Hid (Good m B a b k) := ⟨hlt, unhide E1, unhide HR⟩
            clear HR
            go_wp2
            go_ret2
            exact ⟨rfl, .inl ⟨k, unhide G, rfl⟩⟩
    · have F : Hid (∀ x, ¬ Good n B a b x) := fun x g => hrl x (by have := g.1; omega) g
      clear hrl
      go_wp2
      go_ret2
      exact ⟨rfl, .inr ⟨unhide F, rfl⟩⟩

set_option maxRecDepth 100000 in
set_option maxHeartbeats 2000000 in
theorem model5 (p : Option Addr) (n c : Nat) (A : Nat → Option Addr) (L C : Nat → Nat) (B : Nat → Nat → Bool) (x y : Int) (w : World) (h : Grid w p n A L C B) (hL : ∀ r, r < n → L r ≤ maxLen) (hx : -128 ≤ x ∧ x ≤ 127) (hy : -128 ≤ y ∧ y ≤ 127) :
    Calls Try.prog 5 #[.slice p n c, .int .i8 x, .int .i8 y] w (RetTrue w) := by
  have H := hide h
  have HL := hide hL
  have Z := hide (zz13 p n c A L C B x y w h hL)
  clear h hL
  go_enter Try.func5, Try.ntmps5
  go_wp2_with fail
  refine (unhide Z).mono ?_
  clear Z
  rintro e w1 ⟨k1, b, rfl⟩
  have K1 := hide k1
  clear k1
  simp only []
  cases b
  · go_wp2
    go_ret
    exact ⟨rfl, (unhide K1).toBelow⟩
  by_cases h1 : n ≤ 65536
  case neg =>
    go_wp2
    go_ret
    exact ⟨rfl, (unhide K1).toBelow⟩
  have Z := hide (bytes14 p n c A L C B w1 ((unhide H).keep (unhide K1)) (unhide HL))
  go_wp2_with fail
  refine (unhide Z).mono ?_
  clear Z
  rintro e w2 ⟨k2, b, rfl⟩
  have K2 := hide ((unhide K1).trans k2)
  clear k2 K1
  simp only []
  cases b
  · go_wp2
    go_ret
    exact ⟨rfl, (unhide K2).toBelow⟩
  have Z := hide (dom15 p n c A L C B x y w2 ((unhide H).keep (unhide K2)) hx hy)
  go_wp2_with fail
  refine (unhide Z).mono ?_
  clear Z
  rintro e w3 ⟨k3, b, rfl, hd⟩
  have K3 := hide ((unhide K2).trans k3)
  clear k3 K2
  simp only []
  cases b
  · clear hd
    go_wp2
    go_ret
    exact ⟨rfl, (unhide K3).toBelow⟩
  obtain ⟨hn, hs, x1, x2, y1, y2⟩ := hd rfl
  clear hd
  obtain ⟨a, rfl⟩ := Int.eq_ofNat_of_zero_le x1
  obtain ⟨b, rfl⟩ := Int.eq_ofNat_of_zero_le y1
  have ha : a < n := by omega
  have hb : b < n := by omega
  have Z := hide (clone16 p n c A C B w3 (((unhide H).keep (unhide K3)).square hs) hn (by omega))
  clear hs HL H
  go_wp2_with fail
  refine (unhide Z).mono ?_
  clear Z
  rintro e w4 ⟨k4, g, A', rfl, hG⟩
  have K4 := hide ((unhide K3).trans k4)
  have G := hide hG
  clear k4 hG K3
  have hmk := fun w => run_make_row' (P := Try.prog) 31 9 (.string ByteArray.empty) 16 Try.underlying31 infostr rfl .i64 .i64 n (by omega) (by omega) w
  simp only []
  go_wp2_with fail
  refine (tab17 _ _ _ _ _ _ _).mono ?_
  rintro e w5 ⟨rfl, rfl⟩
  have KA : Kp [] w4 (w4.alloc (.cells (madeCells #[.string ByteArray.empty] n) 9)) := (Kp.refl _ _).alloc _
  have T := hide (tab_made (p := some ⟨w4.heap.size, 0, none⟩) (c := n) (d := n) (unhide G) KA)
  have KK := KA.alloc (.cells #[.slice (some ⟨w4.heap.size, 0, none⟩) n n, .map none, .slice (some ⟨g, 0, none⟩) n n, .map none, .slice none 0 0] 52)
  generalize hu : (w4.alloc (.cells (madeCells #[.string ByteArray.empty] n) 9)).alloc (.cells #[.slice (some ⟨w4.heap.size, 0, none⟩) n n, .map none, .slice (some ⟨g, 0, none⟩) n n, .map none, .slice none 0 0] 52) = u at *
  have K5 := hide ((unhide K4).trans KK)
  have GU := hide ((unhide G).keep KK)
  clear KK hu K4 G hmk
  generalize (w4.alloc (.cells (madeCells #[.string ByteArray.empty] n) 9)).heap.size = tB at *
  simp only []
  have Z := hide (zzwc18 tB n a b _ _ n n A' (fun _ => n) B u (unhide T) hn ha hb)
  go_wp2_with fail
  refine (unhide Z).mono ?_
  clear Z
  intro e u1 hw
  have K6 := hide ((unhide K5).trans hw.1)
  have M := hide (model19 n a b n _ A' (fun _ => n) B u1 ((unhide GU).keep hw.1) hn ha hb)
  obtain ⟨_, ⟨x, gx, rfl⟩ | ⟨gn, rfl⟩⟩ := hw
  · have GX := hide gx
    have hxn := gx.1
    clear gx K5 T GU
    simp only []
    go_wp2_with fail
    refine (unhide M).mono ?_
    clear M
    rintro e u2 ⟨hu, ⟨x', gx', rfl⟩ | ⟨gn, rfl⟩⟩
    · have hu := hu.symm
      subst hu
      have := good_unique gx' (unhide GX)
      subst this
      clear gx' GX
      simp only []
      go_wp2
      go_ret
      exact ⟨rfl, (unhide K6).toBelow⟩
    · exact absurd (unhide GX) (gn x)
  · have GN := hide gn
    clear gn K5 T GU
    simp only []
    go_wp2_with fail
    refine (unhide M).mono ?_
    clear M
    rintro e u2 ⟨hu, ⟨x', gx', rfl⟩ | ⟨gn, rfl⟩⟩
    · exact absurd gx' ((unhide GN) x')
    · have hu := hu.symm
      subst hu
      clear gn GN
      simp only []
      go_wp2
      go_ret
      exact ⟨rfl, (unhide K6).toBelow⟩
end Go.Proofs.Qxb6601372a
