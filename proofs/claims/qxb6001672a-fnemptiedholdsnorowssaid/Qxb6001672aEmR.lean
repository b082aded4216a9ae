/-
  Emptied: the statement of (*Rows).emptied (56) that empties a found column's three lists: it draws its order.
-/
import Derived.Test.Qxb6001672aEmA
import Derived.Deep.RegionWith
set_option linter.unusedSimpArgs false
set_option linter.unusedVariables false
namespace Go.Proofs.Qxb6001672a
open Go.RowKit

/-- A region of a function, wherever it stands. -/
def regAt (n : Nat) : Code → Option Code
  | .region m o d => if m == n then some (.region m o d) else none
  | .seq a b => match regAt n a with
    | some c => some c
    | none => regAt n b
  | .block _ c => regAt n c
  | .loop c => regAt n c
  | .scope c => regAt n c
  | .cond _ a b => match regAt n a with
    | some c => some c
    | none => regAt n b
  | _ => none
def regOf (n : Nat) (f : Func) : Code := (f.body.bind (regAt n)).getD .skip

/-- A post for a normal end alone. -/
def Nrm (K : Act → World → Prop) : Exit → Act → World → Prop
  | .normal, a, w => K a w
  | _, _, _ => False
theorem Nrm.imp {K : Act → World → Prop} {Q : Exit → Act → World → Prop} (h : ∀ a w, K a w → Q .normal a w) : ∀ (e : Exit) (a : Act) (w : World), Nrm K e a w → Q e a w := fun e a w k => by
  cases e <;> first | exact h a w k | exact (k : False).elim

/-- A call that returns a value of which X is known. -/
def Ret (X : Value → World → Prop) (e : Ending) (w : World) : Prop := ∃ p c, e = .returned (.slice p 0 c) ∧ X (.slice p 0 c) w

set_option maxRecDepth 100000 in
set_option maxHeartbeats 4000000 in
theorem reg6 (K : Act → World → Prop) (g k : Nat) (a b d : Option Addr) (X1 X2 X3 : Value → World → Prop) (u0 u1 u2 u3 u4 u6 u7 u8 u9 u10 u11 u12 u13 u14 u15 u16 u17 u18 u19 u20 u21 u22 u23 u24 u25 u26 u27 u28 u29 u30 u31 u32 u33 u34 u35 u36 u37 u38 u39 u40 u41 u42 u43 u44 u45 u46 u47 u48 u49 u50 u51 u52 u53 u54 u55 u56 u57 u58 u59 u60 : Value) (w : World)
    (c1 : w.cell? ⟨g, k * 5 + 1, none⟩ = some (.slice a 1 1)) (c2 : w.cell? ⟨g, k * 5 + 2, none⟩ = some (.slice b 1 1)) (c3 : w.cell? ⟨g, k * 5 + 3, none⟩ = some (.slice d 1 1))
    (C1 : Hid (Calls Try.prog 63 #[.slice a 1 1] w.drew (Ret X1)))
    (C2 : Hid (∀ v u, X1 v u → Calls Try.prog 64 #[.slice b 1 1] u (Ret X2)))
    (C3 : Hid (∀ v u, X2 v u → Calls Try.prog 65 #[.slice d 1 1] u (Ret X3)))
    (D1 : Hid (∀ v u, X1 v u → u.cell? ⟨g, k * 5 + 2, none⟩ = some (.slice b 1 1) ∧ u.cell? ⟨g, k * 5 + 3, none⟩ = some (.slice d 1 1)))
    (D2 : Hid (∀ v u, X2 v u → u.cell? ⟨g, k * 5 + 3, none⟩ = some (.slice d 1 1)))
    (D3 : Hid (∀ v u, X3 v u → (u.cell? ⟨g, k * 5 + 1, none⟩ = some (.slice a 1 1) ∧ u.cell? ⟨g, k * 5 + 2, none⟩ = some (.slice b 1 1) ∧ u.cell? ⟨g, k * 5 + 3, none⟩ = some (.slice d 1 1)) ∧ u.frozen? ⟨g, k * 5 + 1, none⟩ = false ∧ u.frozen? ⟨g, k * 5 + 2, none⟩ = false ∧ u.frozen? ⟨g, k * 5 + 3, none⟩ = false))
    (hQ : Hid (∀ s18 s19 s20 s21 s22 s23 s24 s25 s26 s27 s28 s29 s30 s31 s32 s33 s34 s35 s36 s37 s38 s39 s40 s41 v1 v2 v3 v u, X3 v u → K ⟨#[u0, u1, u2, u3, u4, .pointer (some ⟨g, k * 5, none⟩), u6, u7, u8, u9, u10, u11, u12, u13, u14, u15, u16, u17, s18, s19, s20, s21, s22, s23, s24, s25, s26, s27, s28, s29, s30, s31, s32, s33, s34, s35, s36, s37, s38, s39, s40, s41, u42, u43, u44, u45, u46, u47, u48, u49, u50, u51, u52, u53, u54, u55, u56, u57, u58, u59, u60], []⟩ (((u.setCell ⟨g, k * 5 + 1, none⟩ v1).setCell ⟨g, k * 5 + 2, none⟩ v2).setCell ⟨g, k * 5 + 3, none⟩ v3))) :
    Code.wp Try.prog (regOf 6 Try.f56) (Nrm K) ⟨#[u0, u1, u2, u3, u4, .pointer (some ⟨g, k * 5, none⟩), u6, u7, u8, u9, u10, u11, u12, u13, u14, u15, u16, u17, u18, u19, u20, u21, u22, u23, u24, u25, u26, u27, u28, u29, u30, u31, u32, u33, u34, u35, u36, u37, u38, u39, u40, u41, u42, u43, u44, u45, u46, u47, u48, u49, u50, u51, u52, u53, u54, u55, u56, u57, u58, u59, u60], []⟩ w := by
  conv => arg 2; whnf
  go_region_with (first
    | (go_at_call 63; refine (unhide C1).mono ?_; rintro e u1 ⟨p1, q1, rfl, x1⟩; have y2 := ((unhide D1) _ _ x1).1; have y3 := ((unhide D1) _ _ x1).2; have x1 := hide x1)
    | (go_at_call 64; refine ((unhide C2) _ _ (unhide x1)).mono ?_; rintro e u2 ⟨p2, q2, rfl, x2⟩; have z3 := (unhide D2) _ _ x2; have x2 := hide x2)
    | (go_at_call 65; refine ((unhide C3) _ _ (unhide x2)).mono ?_; rintro e u3 ⟨p3, q3, rfl, x3⟩; have t1 := ((unhide D3) _ _ x3).1.1; have t2 := ((unhide D3) _ _ x3).1.2.1; have t3 := ((unhide D3) _ _ x3).1.2.2; have f1 := ((unhide D3) _ _ x3).2.1; have f2 := ((unhide D3) _ _ x3).2.2.1; have f3 := ((unhide D3) _ _ x3).2.2.2; have x3 := hide x3))
  all_goals refine (show K _ _ from ?_)
  all_goals exact (unhide hQ) _ _ _ _ _ _ _ _ _ _ _ _ _ _ _ _ _ _ _ _ _ _ _ _ _ _ _ _ _ (unhide x3)
end Go.Proofs.Qxb6001672a
