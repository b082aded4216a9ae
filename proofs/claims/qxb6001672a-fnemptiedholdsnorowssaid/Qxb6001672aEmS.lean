/-
  Emptied: the last statement of (*Rows).emptied (56): it draws its order.
-/
import Derived.Test.Qxb6001672aEmR
import Derived.Deep.RegionHeld3
set_option linter.unusedSimpArgs false
set_option linter.unusedVariables false
namespace Go.Proofs.Qxb6001672a
open Go.RowKit

set_option maxRecDepth 100000 in
set_option maxHeartbeats 2000000 in
theorem reg8 (K : Act → World → Prop) (rB H nw nt nr nf cw ct cr cf : Nat) (pw pt pr pf : Option Addr) (X1 : Value → World → Prop) (X2 : Value → Value → World → Prop) (X3 : Value → Value → Value → World → Prop) (u1 u4 u5 u6 u7 u8 u9 u10 u11 u12 u13 u14 u15 u16 u17 u18 u19 u20 u21 u22 u23 u24 u25 u26 u27 u28 u29 u30 u31 u32 u33 u34 u35 u36 u37 u38 u39 u40 u41 u42 u43 u44 u45 u46 u47 u48 u49 u50 u51 u52 u53 u54 u55 u56 u57 u58 u59 u60 : Value) (w : World) (hrH : rB ≠ H) (hrH' : H ≠ rB) (hz : pf = none → nf = 0 ∧ cf = 0)
    (c1 : w.cell? ⟨rB, 1, none⟩ = some (.slice pw nw cw)) (c2 : w.cell? ⟨rB, 2, none⟩ = some (.slice pt nt ct)) (c3 : w.cell? ⟨rB, 3, none⟩ = some (.slice pr nr cr))
    (C1 : Hid (Calls Try.prog 66 #[.slice pw nw cw] w.drew (Ret X1)))
    (C2 : Hid (∀ v u, X1 v u → Calls Try.prog 67 #[.slice pt nt ct] u (Ret (X2 v))))
    (C3 : Hid (∀ v v' u, X2 v v' u → Calls Try.prog 64 #[.slice pr nr cr] u (Ret (X3 v v'))))
    (D1 : Hid (∀ v u, X1 v u → u.cell? ⟨rB, 1, none⟩ = some (.slice pw nw cw) ∧ u.cell? ⟨rB, 2, none⟩ = some (.slice pt nt ct) ∧ u.cell? ⟨rB, 3, none⟩ = some (.slice pr nr cr)))
    (D2 : Hid (∀ v v' u, X2 v v' u → u.cell? ⟨rB, 1, none⟩ = some (.slice pw nw cw) ∧ u.cell? ⟨rB, 2, none⟩ = some (.slice pt nt ct) ∧ u.cell? ⟨rB, 3, none⟩ = some (.slice pr nr cr)))
    (D3 : Hid (∀ v v' v'' u, X3 v v' v'' u → (u.cell? ⟨rB, 1, none⟩ = some (.slice pw nw cw) ∧ u.cell? ⟨rB, 2, none⟩ = some (.slice pt nt ct) ∧ u.cell? ⟨rB, 3, none⟩ = some (.slice pr nr cr)) ∧
      (u.cell? ⟨H, 0, none⟩ = some (.pointer none) ∧ u.cell? ⟨H, 1, none⟩ = some (.slice none 0 0) ∧ u.cell? ⟨H, 2, none⟩ = some (.slice none 0 0) ∧ u.cell? ⟨H, 3, none⟩ = some (.slice none 0 0) ∧ u.cell? ⟨H, 4, none⟩ = some (.slice none 0 0)) ∧
      (u.frozen? ⟨H, 0, none⟩ = false ∧ u.frozen? ⟨H, 1, none⟩ = false ∧ u.frozen? ⟨H, 2, none⟩ = false ∧ u.frozen? ⟨H, 3, none⟩ = false ∧ u.frozen? ⟨H, 4, none⟩ = false)))
    (hQ : Hid (∀ s43 s44 s45 s46 s47 s48 s49 s50 s51 s52 s53 s54 s55 s56 s57 s58 s59 s60 p1 q1 p2 q2 p3 q3 u, X3 (.slice p1 0 q1) (.slice p2 0 q2) (.slice p3 0 q3) u → K ⟨#[.pointer (some ⟨rB, 0, none⟩), u1, .pointer (some ⟨H, 0, none⟩), .slice pf nf cf, u4, u5, u6, u7, u8, u9, u10, u11, u12, u13, u14, u15, u16, u17, u18, u19, u20, u21, u22, u23, u24, u25, u26, u27, u28, u29, u30, u31, u32, u33, u34, u35, u36, u37, u38, u39, u40, u41, u42, s43, s44, s45, s46, s47, s48, s49, s50, s51, s52, s53, s54, s55, s56, s57, s58, s59, s60], []⟩ (((((u.setCell ⟨H, 0, none⟩ (.pointer none)).setCell ⟨H, 1, none⟩ (.slice p1 0 q1)).setCell ⟨H, 2, none⟩ (.slice p2 0 q2)).setCell ⟨H, 3, none⟩ (.slice p3 0 q3)).setCell ⟨H, 4, none⟩ (.slice pf 0 cf)))) :
    Code.wp Try.prog (regOf 8 Try.f56) (Nrm K) ⟨#[.pointer (some ⟨rB, 0, none⟩), u1, .pointer (some ⟨H, 0, none⟩), .slice pf nf cf, u4, u5, u6, u7, u8, u9, u10, u11, u12, u13, u14, u15, u16, u17, u18, u19, u20, u21, u22, u23, u24, u25, u26, u27, u28, u29, u30, u31, u32, u33, u34, u35, u36, u37, u38, u39, u40, u41, u42, u43, u44, u45, u46, u47, u48, u49, u50, u51, u52, u53, u54, u55, u56, u57, u58, u59, u60], []⟩ w := by
  conv => arg 2; whnf
  cases pf with
  | none =>
    obtain ⟨rfl, rfl⟩ := hz rfl
    clear hz
    go_region_held3 (fun w' => w'.cell? ⟨rB, 1, none⟩ = some (.slice pw nw cw) ∧ w'.cell? ⟨rB, 2, none⟩ = some (.slice pt nt ct) ∧ w'.cell? ⟨rB, 3, none⟩ = some (.slice pr nr cr)) (go_keep)
      (first
        | (go_at_call 66; refine (unhide C1).mono ?_; rintro e u1 ⟨p1, q1, rfl, x1⟩; have y1 := ((unhide D1) _ _ x1).1; have y2 := ((unhide D1) _ _ x1).2.1; have y3 := ((unhide D1) _ _ x1).2.2; have x1 := hide x1)
        | (go_at_call 67; refine ((unhide C2) _ _ (unhide x1)).mono ?_; rintro e u2 ⟨p2, q2, rfl, x2⟩; have z1 := ((unhide D2) _ _ _ x2).1; have z2 := ((unhide D2) _ _ _ x2).2.1; have z3 := ((unhide D2) _ _ _ x2).2.2; have x2 := hide x2)
        | (go_at_call 64; refine ((unhide C3) _ _ _ (unhide x2)).mono ?_; rintro e u3 ⟨p3, q3, rfl, x3⟩; have t1 := ((unhide D3) _ _ _ _ x3).1.1; have t2 := ((unhide D3) _ _ _ _ x3).1.2.1; have t3 := ((unhide D3) _ _ _ _ x3).1.2.2; obtain ⟨h0, h1, h2, h3, h4⟩ := ((unhide D3) _ _ _ _ x3).2.1; obtain ⟨f0, f1, f2, f3, f4⟩ := ((unhide D3) _ _ _ _ x3).2.2; have x3 := hide x3))
    refine (show K _ _ from ?_)
    exact (unhide hQ) _ _ _ _ _ _ _ _ _ _ _ _ _ _ _ _ _ _ _ _ _ _ _ _ _ (unhide x3)

  | some af =>
    clear hz
    go_region_held3 (fun w' => w'.cell? ⟨rB, 1, none⟩ = some (.slice pw nw cw) ∧ w'.cell? ⟨rB, 2, none⟩ = some (.slice pt nt ct) ∧ w'.cell? ⟨rB, 3, none⟩ = some (.slice pr nr cr)) (go_keep)
      (first
        | (go_at_call 66; refine (unhide C1).mono ?_; rintro e u1 ⟨p1, q1, rfl, x1⟩; have y1 := ((unhide D1) _ _ x1).1; have y2 := ((unhide D1) _ _ x1).2.1; have y3 := ((unhide D1) _ _ x1).2.2; have x1 := hide x1)
        | (go_at_call 67; refine ((unhide C2) _ _ (unhide x1)).mono ?_; rintro e u2 ⟨p2, q2, rfl, x2⟩; have z1 := ((unhide D2) _ _ _ x2).1; have z2 := ((unhide D2) _ _ _ x2).2.1; have z3 := ((unhide D2) _ _ _ x2).2.2; have x2 := hide x2)
        | (go_at_call 64; refine ((unhide C3) _ _ _ (unhide x2)).mono ?_; rintro e u3 ⟨p3, q3, rfl, x3⟩; have t1 := ((unhide D3) _ _ _ _ x3).1.1; have t2 := ((unhide D3) _ _ _ _ x3).1.2.1; have t3 := ((unhide D3) _ _ _ _ x3).1.2.2; obtain ⟨h0, h1, h2, h3, h4⟩ := ((unhide D3) _ _ _ _ x3).2.1; obtain ⟨f0, f1, f2, f3, f4⟩ := ((unhide D3) _ _ _ _ x3).2.2; have x3 := hide x3))
    refine (show K _ _ from ?_)
    exact (unhide hQ) _ _ _ _ _ _ _ _ _ _ _ _ _ _ _ _ _ _ _ _ _ _ _ _ _ (unhide x3)

end Go.Proofs.Qxb6001672a
