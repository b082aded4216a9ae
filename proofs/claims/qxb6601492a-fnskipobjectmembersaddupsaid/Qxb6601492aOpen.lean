/-
  GENERAL: an argument that is a slice, as 'Src' tells it.
-/
import Derived.Test.Qxb6601492aMem
import Derived.ProofKit
import Derived.OpenShut
import Derived.ShutString
import Derived.ChangeOld
import Derived.SliceStrings
import Derived.Deep.Grids
set_option linter.unusedSimpArgs false
set_option linter.unusedVariables false
namespace Go.Proofs.Qxb6601492a
open Go.ChangeShapes Go.WideShapes Go.ChangeAt Go.RowKit

theorem add_of {x : Addr} (hs : x.spot = none) (i : Nat) : x.add i = ⟨x.block, x.off + i, none⟩ := by
  obtain ⟨b, o, s⟩ := x
  subst hs
  exact Addr.add_lit ..

theorem spot_none {w : World} {x : Addr} {v : Value} (h : w.cell? (x.add 0) = some v) : x.spot = none := by
  have := World.cell?_spot h
  simpa [Addr.add] using this

theorem src_of {w : World} {x : Addr} {xs : List Value} (h : ∀ i v, xs[i]? = some v → w.cell? (x.add i) = some v) : Src w (some x) xs := by
  intro h0
  obtain ⟨v, hv⟩ := getElem?_lt_some xs 0 h0
  have hs := spot_none (h 0 v hv)
  have hl : x.block < w.heap.size := by
    have := block_lt_of_cell (h 0 v hv)
    rw [add_of hs] at this
    exact this
  obtain ⟨b, o, s⟩ := x
  have hs' : s = none := hs
  subst hs'
  exact ⟨b, o, rfl, hl, fun i v hv => by have := h i v hv; rwa [Addr.add_lit] at this⟩

section
variable {H : Type} {enc : TypeId × Value → H} {P : Program} {w : World}

theorem arg_ints {t e : TypeId} {k : IntKind} {a : Option Addr} {len cap : Nat} {d : DataW H} {p : List MemPlace} (ht : P.underlying t = some (.slice e)) (he : P.underlying e = some (.int k)) (hc : P.cellsOf e = 1)
    (h : DataW.Trod enc P w 0 (fun _ => true) true t (.slice a len cap) d p) :
    ∃ zs : List Int, zs.length = len ∧ Src w a (zs.map (Value.int k)) ∧ (a = none → len = 0 ∧ cap = 0) ∧ ∀ z ∈ zs, (Lit.int k z).wf = true := by
  obtain ⟨fuel, hf⟩ := h
  rcases open_ints ht he hc hf with ⟨hcs, _⟩ | ⟨x, l, c, zs, hcs, _, hl, hm, hz, _, hcell, hwz⟩
  · simp [Value.cells] at hcs
    obtain ⟨rfl, rfl, rfl⟩ := hcs
    exact ⟨[], rfl, fun h => by simp at h, fun _ => ⟨rfl, rfl⟩, by simp⟩
  · simp [Value.cells] at hcs
    obtain ⟨rfl, rfl, rfl⟩ := hcs
    simp only [if_true] at hz
    refine ⟨zs.take len, by simp; omega, src_of fun i v hv => ?_, (fun h => by cases h), fun z hz => hwz z (List.mem_of_mem_take hz)⟩
    have hi : i < len := by have := (List.getElem?_eq_some_iff.1 hv).1; simp at this; omega
    rw [hcell i (by omega)]
    rw [List.getElem?_map, List.getElem?_take_of_lt hi] at hv
    have hg : zs[i]? = some zs[i] := List.getElem?_eq_getElem (by omega)
    rw [hg] at hv
    simp at hv
    rw [← hv]
    simp [List.getD, hg]

theorem arg_bools {t e : TypeId} {a : Option Addr} {len cap : Nat} {d : DataW H} {p : List MemPlace} (ht : P.underlying t = some (.slice e)) (he : P.underlying e = some .bool) (hc : P.cellsOf e = 1)
    (h : DataW.Trod enc P w 0 (fun _ => true) true t (.slice a len cap) d p) :
    ∃ bs : List Bool, bs.length = len ∧ Src w a (bs.map Value.bool) ∧ (a = none → len = 0 ∧ cap = 0) := by
  obtain ⟨fuel, hf⟩ := h
  rcases Go.Deep.open_bools ht he hc hf with ⟨hcs, _⟩ | ⟨x, l, c, B, hcs, _, hl, hm, _, hcell⟩
  · simp [Value.cells] at hcs
    obtain ⟨rfl, rfl, rfl⟩ := hcs
    exact ⟨[], rfl, fun h => by simp at h, fun _ => ⟨rfl, rfl⟩⟩
  · simp [Value.cells] at hcs
    obtain ⟨rfl, rfl, rfl⟩ := hcs
    refine ⟨(List.range len).map B, by simp, src_of fun i v hv => ?_, (fun h => by cases h)⟩
    have hi : i < len := by have := (List.getElem?_eq_some_iff.1 hv).1; simpa using this
    rw [hcell i (by omega)]
    simp [hi] at hv
    rw [hv]

theorem arg_strings {t e : TypeId} {a : Option Addr} {len cap : Nat} {d : DataW H} {p : List MemPlace} (ht : P.underlying t = some (.slice e)) (he : P.underlying e = some .string) (hc : P.cellsOf e = 1)
    (h : DataW.Trod enc P w 0 (fun _ => true) true t (.slice a len cap) d p) :
    ∃ ss : List ByteArray, ss.length = len ∧ Src w a (ss.map Value.string) ∧ (a = none → len = 0 ∧ cap = 0) := by
  obtain ⟨fuel, hf⟩ := h
  rcases open_strings ht he hc hf with ⟨hcs, _⟩ | ⟨x, l, c, zs, hcs, _, hl, hm, hz, _, hcell, hwz⟩
  · simp [Value.cells] at hcs
    obtain ⟨rfl, rfl, rfl⟩ := hcs
    exact ⟨[], rfl, fun h => by simp at h, fun _ => ⟨rfl, rfl⟩⟩
  · simp [Value.cells] at hcs
    obtain ⟨rfl, rfl, rfl⟩ := hcs
    simp only [if_true] at hz
    refine ⟨zs.take len, by simp; omega, src_of fun i v hv => ?_, (fun h => by cases h)⟩
    have hi : i < len := by have := (List.getElem?_eq_some_iff.1 hv).1; simp at this; omega
    rw [hcell i (by omega)]
    rw [List.getElem?_map, List.getElem?_take_of_lt hi] at hv
    have hg : zs[i]? = some zs[i] := List.getElem?_eq_getElem (by omega)
    rw [hg] at hv
    simp at hv
    rw [← hv]
    simp [List.getD, hg]
end

theorem wf_i64 {z : Int} (h : (Lit.int .i64 z).wf = true) : -9223372036854775808 ≤ z ∧ z ≤ 9223372036854775807 := by
  simpa [Lit.wf, IntKind.min, IntKind.max, IntKind.signed, IntKind.bits] using h

end Go.Proofs.Qxb6601492a
