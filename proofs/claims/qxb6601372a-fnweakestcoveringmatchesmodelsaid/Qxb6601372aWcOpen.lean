/-
  An argument that is a matrix of bools, as 'Grid' tells it.
-/
import Derived.Test.Qxb6601372aOpen
import Derived.Test.Qxb6601372aWcA
set_option linter.unusedSimpArgs false
set_option linter.unusedVariables false
namespace Go.Proofs.Qxb6601372a
open Go.ChangeShapes Go.WideShapes Go.ChangeAt Go.RowKit

theorem src_fn {w : World} {x : Addr} {n : Nat} {f : Nat → Value} (h : ∀ i, i < n → w.cell? (x.add i) = some (f i)) : Src w (some x) ((List.range n).map f) := by
  refine src_of fun i v hv => ?_
  have hi : i < n := by have := (List.getElem?_eq_some_iff.1 hv).1; simpa using this
  rw [h i hi]
  simpa [hi] using hv

theorem arg_grid {H : Type} {enc : TypeId × Value → H} {P : Program} {w : World} {t e q : TypeId} {a : Option Addr} {len cap : Nat} {d : DataW H} {p : List MemPlace} (ht : P.underlying t = some (.slice e)) (he : P.underlying e = some (.slice q)) (hq : P.underlying q = some .bool)
    (ce : P.cellsOf e = 1) (cq : P.cellsOf q = 1) (h : DataW.Trod enc P w 0 (fun _ => true) true t (.slice a len cap) d p) :
    ∃ A L C B, Grid w a len A L C B ∧ ∀ r, r < len → L r ≤ maxLen := by
  obtain ⟨fuel, hf⟩ := h
  rcases Go.Deep.open_bool_rows ht he hq ce cq hf with ⟨hcs, _⟩ | ⟨x, l, c, A, L, C, B, hcs, _, hl, hm, _, hr⟩
  · simp [Value.cells] at hcs
    obtain ⟨rfl, rfl, rfl⟩ := hcs
    exact ⟨fun _ => none, fun _ => 0, fun _ => 0, fun _ _ => false, ⟨fun h => by simp at h, fun r h => by omega⟩, fun r h => by omega⟩
  · simp [Value.cells] at hcs
    obtain ⟨rfl, rfl, rfl⟩ := hcs
    refine ⟨A, L, C, B, ⟨src_fn fun i hi => (hr i (by omega)).1, fun r hrl => ?_⟩, fun r h => ?_⟩
    · obtain ⟨_, h1, _, h2, h3⟩ := hr r (by omega)
      cases e : A r with
      | none =>
        have := h2 e
        intro h0
        simp at h0
        omega
      | some y => exact src_fn fun i hi => (h3 y e).2 i (by omega)
    · obtain ⟨_, h1, h2, _⟩ := hr r (by omega)
      omega
theorem wf_i8 {z : Int} (h : (Lit.int .i8 z).wf = true) : -128 ≤ z ∧ z ≤ 127 := by
  simpa [Lit.wf, IntKind.min, IntKind.max, IntKind.signed, IntKind.bits] using h
end Go.Proofs.Qxb6601372a
