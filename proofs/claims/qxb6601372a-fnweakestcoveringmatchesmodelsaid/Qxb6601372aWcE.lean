/-
  Weakest covering: the plain laws; FnWeakestCoveringAbsorbs (6): THE WALK.
-/
import Derived.Test.Qxb6601372aWcC
import Derived.Test.Qxb6601372aWcD
set_option linter.unusedSimpArgs false
set_option linter.unusedVariables false
namespace Go.Proofs.Qxb6601372a
open Go.RowKit

def RetTrue (w : World) (e : Ending) (w' : World) : Prop := e = .returned (.bool true) ∧ Below w.heap.size w w'

theorem sub_refl (n : Nat) (B : Nat → Nat → Bool) (x : Nat) : sub n B x x = true := sub_of fun _ _ h => h
theorem sub_trans {n : Nat} {B : Nat → Nat → Bool} {x y z : Nat} (h : sub n B x y = true) (k : sub n B y z = true) : sub n B x z = true :=
  sub_of fun c hc hx => sub_iff.1 k c hc (sub_iff.1 h c hc hx)
theorem cb_iff {n : Nat} {B : Nat → Nat → Bool} {a b x : Nat} : cb n B a b x = true ↔ sub n B x a = true ∧ sub n B x b = true := by simp [cb]

theorem good_of {n : Nat} {B : Nat → Nat → Bool} {a b x a' b' : Nat} (g : Good n B a b x) (h1 : sub n B x a' = true) (h2 : sub n B x b' = true) (h : ∀ m, m < n → sub n B m a' = true → sub n B m b' = true → sub n B m x = true) : Good n B a' b' x :=
  ⟨g.1, cb_iff.2 ⟨h1, h2⟩, fun m hm hmx hc => by
    have hc := cb_iff.1 hc
    have h3 := h m hm hc.1 hc.2
    have ga := cb_iff.1 g.2.1
    exact ⟨h3, (g.2.2 m hm hmx (cb_iff.2 ⟨sub_trans h3 ga.1, sub_trans h3 ga.2⟩)).2⟩⟩
theorem good_xx {n : Nat} {B : Nat → Nat → Bool} {a b x : Nat} (g : Good n B a b x) : Good n B x x x := good_of g (sub_refl _ _ _) (sub_refl _ _ _) fun _ _ h _ => h
theorem good_ax {n : Nat} {B : Nat → Nat → Bool} {a b x : Nat} (g : Good n B a b x) : Good n B a x x := good_of g (cb_iff.1 g.2.1).1 (sub_refl _ _ _) fun _ _ _ h => h
theorem good_xb {n : Nat} {B : Nat → Nat → Bool} {a b x : Nat} (g : Good n B a b x) : Good n B x b x := good_of g (sub_refl _ _ _) (cb_iff.1 g.2.1).2 fun _ _ h _ => h

theorem WCO.good {w w' : World} {n a b x : Nat} {B : Nat → Nat → Bool} {e : Ending} (h : WCO w n B a b e w') (g : Good n B a b x) : Kp [] w w' ∧ e = .returned (.tuple #[.int .i8 x, .bool true]) := by
  obtain ⟨k, ⟨y, hy, rfl⟩ | ⟨hn, _⟩⟩ := h
  · rw [good_unique hy g]
    exact ⟨k, rfl⟩
  · exact absurd g (hn x)

theorem Grid.square {w : World} {p : Option Addr} {n : Nat} {A : Nat → Option Addr} {L C : Nat → Nat} {B : Nat → Nat → Bool} (h : Grid w p n A L C B) (hL : ∀ r, r < n → L r = n) : Grid w p n A (fun _ => n) C B := by
  refine ⟨?_, fun r hr => by have := h.2 r hr; rwa [hL r hr] at this⟩
  have := h.1
  rwa [List.map_congr_left (g := rowV A (fun _ => n) C) (fun r hr => by simp [rowV, hL r (List.mem_range.1 hr)])] at this

theorem infostr : (Try.prog.info? 9).map (fun i => (i.zero, i.size, i.bytes)) = some (some (.string ByteArray.empty), 1, 16) := by kernel_rfl

/-- The table, behind its making. -/
theorem tab_made {w u : World} {n c d : Nat} {p q : Option Addr} {A : Nat → Option Addr} {C : Nat → Nat} {B : Nat → Nat → Bool} (hg : Grid w q n A (fun _ => n) C B) (k : Kp [] w u) :
    Tab (u.alloc (.cells #[.slice p n c, .map none, .slice q n d, .map none, .slice none 0 0] 52)) u.heap.size n p q c d A C B :=
  ⟨Blk.new u _ _, hg.keep (k.alloc _)⟩

set_option maxRecDepth 100000 in
set_option maxHeartbeats 2000000 in
theorem absorbs6 (p : Option Addr) (n c : Nat) (A : Nat → Option Addr) (L C : Nat → Nat) (B : Nat → Nat → Bool) (x y : Int) (w : World) (h : Grid w p n A L C B) (hL : ∀ r, r < n → L r ≤ maxLen) (hx : -128 ≤ x ∧ x ≤ 127) (hy : -128 ≤ y ∧ y ≤ 127) :
    Calls Try.prog 6 #[.slice p n c, .int .i8 x, .int .i8 y] w (RetTrue w) := by
  have H := hide h
  have HL := hide hL
  have Z := hide (zz20 p n c A L C B x y w h hL)
  clear h hL
  go_enter Try.func6, Try.ntmps6
  go_wp2_with fail
  refine (unhide Z).mono ?_
  clear Z
  rintro e w1 ⟨k1, b, rfl⟩
  have K1 := hide k1
  clear k1
  simp only []
  cases b
  · go_wp2
    go_ret
    exact ⟨rfl, (unhide K1).toBelow⟩
  by_cases h1 : n ≤ 65536
  case neg =>
    go_wp2
    go_ret
    exact ⟨rfl, (unhide K1).toBelow⟩
  have Z := hide (bytes14 p n c A L C B w1 ((unhide H).keep (unhide K1)) (unhide HL))
  go_wp2_with fail
  refine (unhide Z).mono ?_
  clear Z
  rintro e w2 ⟨k2, b, rfl⟩
  have K2 := hide ((unhide K1).trans k2)
  clear k2 K1
  simp only []
  cases b
  · go_wp2
    go_ret
    exact ⟨rfl, (unhide K2).toBelow⟩
  have Z := hide (dom15 p n c A L C B x y w2 ((unhide H).keep (unhide K2)) hx hy)
  go_wp2_with fail
  refine (unhide Z).mono ?_
  clear Z
  rintro e w3 ⟨k3, b, rfl, hd⟩
  have K3 := hide ((unhide K2).trans k3)
  clear k3 K2
  simp only []
  cases b
  · clear hd
    go_wp2
    go_ret
    exact ⟨rfl, (unhide K3).toBelow⟩
  obtain ⟨hn, hs, x1, x2, y1, y2⟩ := hd rfl
  clear hd
  obtain ⟨a, rfl⟩ := Int.eq_ofNat_of_zero_le x1
  obtain ⟨b, rfl⟩ := Int.eq_ofNat_of_zero_le y1
  have ha : a < n := by omega
  have hb : b < n := by omega
  have Z := hide (clone16 p n c A C B w3 (((unhide H).keep (unhide K3)).square hs) hn (by omega))
  clear hs HL H
  go_wp2_with fail
  refine (unhide Z).mono ?_
  clear Z
  rintro e w4 ⟨k4, g, A', rfl, hG⟩
  have K4 := hide ((unhide K3).trans k4)
  have G := hide hG
  clear k4 hG K3
  have hmk := fun w => run_make_row' (P := Try.prog) 31 9 (.string ByteArray.empty) 16 Try.underlying31 infostr rfl .i64 .i64 n (by omega) (by omega) w
  simp only []
  go_wp2_with fail
  refine (tab17 _ _ _ _ _ _ _).mono ?_
  rintro e w5 ⟨rfl, rfl⟩
  have KA : Kp [] w4 (w4.alloc (.cells (madeCells #[.string ByteArray.empty] n) 9)) := (Kp.refl _ _).alloc _
  have T := hide (tab_made (p := some ⟨w4.heap.size, 0, none⟩) (c := n) (d := n) (unhide G) KA)
  have KK := KA.alloc (.cells #[.slice (some ⟨w4.heap.size, 0, none⟩) n n, .map none, .slice (some ⟨g, 0, none⟩) n n, .map none, .slice none 0 0] 52)
  generalize hu : (w4.alloc (.cells (madeCells #[.string ByteArray.empty] n) 9)).alloc (.cells #[.slice (some ⟨w4.heap.size, 0, none⟩) n n, .map none, .slice (some ⟨g, 0, none⟩) n n, .map none, .slice none 0 0] 52) = u at *
  have K5 := hide ((unhide K4).trans KK)
  clear KK hu K4 G hmk
  generalize (w4.alloc (.cells (madeCells #[.string ByteArray.empty] n) 9)).heap.size = tB at *
  simp only []
  have Z := hide (zzwc18 tB n a b _ _ n n A' (fun _ => n) B u (unhide T) hn ha hb)
  go_wp2_with fail
  refine (unhide Z).mono ?_
  clear Z
  rintro e u1 ⟨k6, ⟨x, gx, rfl⟩ | ⟨gn, rfl⟩⟩
  case inr =>
    have K6 := hide ((unhide K5).trans k6)
    clear k6 gn
    simp only []
    go_wp2
    go_ret
    exact ⟨rfl, (unhide K6).toBelow⟩
  have K6 := hide ((unhide K5).trans k6)
  have T1 := hide ((unhide T).keep k6)
  have hxn := gx.1
  have GX := hide gx
  clear k6 gx K5 T
  have Z := hide (zzwc18 tB n x x _ _ n n A' (fun _ => n) B u1 (unhide T1) hn hxn hxn)
  simp only []
  go_wp2_with fail
  refine (unhide Z).mono ?_
  clear Z
  intro e u2 hw
  obtain ⟨k7, rfl⟩ := hw.good (good_xx (unhide GX))
  have K7 := hide ((unhide K6).trans k7)
  have T2 := hide ((unhide T1).keep k7)
  clear hw k7 K6 T1
  have Z := hide (zzwc18 tB n a x _ _ n n A' (fun _ => n) B u2 (unhide T2) hn ha hxn)
  simp only []
  go_wp2_with fail
  refine (unhide Z).mono ?_
  clear Z
  intro e u3 hw
  obtain ⟨k8, rfl⟩ := hw.good (good_ax (unhide GX))
  have K8 := hide ((unhide K7).trans k8)
  have T3 := hide ((unhide T2).keep k8)
  clear hw k8 K7 T2
  have Z := hide (zzwc18 tB n x b _ _ n n A' (fun _ => n) B u3 (unhide T3) hn hxn hb)
  simp only []
  go_wp2_with fail
  refine (unhide Z).mono ?_
  clear Z
  intro e u4 hw
  obtain ⟨k9, rfl⟩ := hw.good (good_xb (unhide GX))
  have K9 := hide ((unhide K8).trans k9)
  clear hw k9 K8 T3 GX
  simp only []
  go_wp2
  go_ret
  exact ⟨rfl, (unhide K9).toBelow⟩
end Go.Proofs.Qxb6601372a
