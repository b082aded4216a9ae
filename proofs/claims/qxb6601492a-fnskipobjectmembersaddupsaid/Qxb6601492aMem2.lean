/-
  GENERAL, NO PROGRAM: clear, and slices as 'Sl' tells them.
-/
import Derived.Test.Qxb6601492aMem
import Derived.Lib.SliceRun
set_option linter.unusedSimpArgs false
set_option linter.unusedVariables false
namespace Go.Proofs.Qxb6601492a
open Go.RowKit

theorem zeroCells_one {z : Value} (hz : z.cells = #[z]) (n : Nat) : (Builtin.zeroCells z.cells n).toList = List.replicate n z := by
  rw [hz]
  simp [Builtin.zeroCells]
  apply List.ext_getElem
  · simp
  · intro i h1 h2
    simp [Nat.mod_one]

/-- A slice's block, where it has elements. -/
def gl (m g : Nat) : List Nat := if m = 0 then [] else [g]
theorem mem_gl {m g k : Nat} : k ∈ gl m g ↔ 0 < m ∧ k = g := by
  unfold gl
  by_cases h : m = 0
  · simp [h]
  · simp [h]; omega

/-- 'clear(s)' of a row of the call's own. -/
theorem wpList_clear_blk {P : Program} {w : World} {ops : Array Oper} {rest : List Oper} {o : Oper} {a : Act} {Q : Exit → Act → World → Prop} (hgd : o.guard = none) (s : Operand) (t : TypeId)
    (ho : o.op = .call { callee := .builtin .clear, args := #[s], argTypes := #[t] }) (e : TypeId) (z : Value) (hu : P.underlying t = some (.slice e)) (hv : ∀ w, (zeroValue e).run P w = .ok z w)
    (hz : z.cells = #[z]) (h1 : z.oneCell' = true) (p : Option Addr) (n c : Nat) (hs : a.eval s = .slice p n c) (g : Nat) (xs : List Value) (tt : TypeId)
    (hp : 0 < n → p = some ⟨g, 0, none⟩ ∧ Blk w g xs tt ∧ n ≤ xs.length)
    (h : ∀ w', (0 < n → Blk w' g (List.replicate n z ++ xs.drop n) tt) → Kp (gl n g) w w' → w'.heap.size = w.heap.size → wpList P ops Q rest (a.put o.dst (.tuple #[])) w') :
    wpList P ops Q (o :: rest) a w := by
  refine wpList_plain hgd fun K hK => ?_
  by_cases h0 : n = 0
  · subst h0
    have hrun : (Builtin.clear_ #[t] o.type #[.slice p 0 c]).run P w = .ok (.tuple #[]) w := by cases p <;> simp [Builtin.clear_, run_underlying hu]
    unfold Oper.wp
    simp [execOp, ho, resolve, invoke, builtin, hs, hrun, Result.andThen]
    exact hK _ _ (h w (fun h => by omega) (Kp.refl _ _) rfl)
  · obtain ⟨rfl, hB, hl⟩ := hp (by omega)
    have hst := run_storeCells_at P g 0 tt (List.replicate n z) 0 xs.toArray w hB (by simpa using hl) (by intro v hv'; rw [List.eq_of_mem_replicate hv']; exact h1)
    have hrun : (Builtin.clear_ #[t] o.type #[.slice (some ⟨g, 0, none⟩) n c]).run P w = .ok (.tuple #[]) (w.setRow g (List.replicate n z ++ xs.drop n).toArray) := by
      obtain ⟨m, rfl⟩ : ∃ m, n = m + 1 := ⟨n - 1, by omega⟩
      simp only [Nat.add_zero, List.take_zero, List.nil_append, Nat.zero_add, List.length_replicate] at hst
      simp [Builtin.clear_, run_underlying hu, hv, zeroCells_one hz, hst]
    unfold Oper.wp
    simp [execOp, ho, resolve, invoke, builtin, hs, hrun, Result.andThen]
    refine hK _ _ (h _ (fun _ => ?_) ((Kp.refl _ _).setRow (.inl (mem_gl.2 ⟨by omega, rfl⟩)) _) (by simp))
    have := hB.setRow (List.replicate n z ++ xs.drop n).toArray
    simpa using this

theorem ovr_len (xs old : List Value) (k : Nat) (h1 : k ≤ xs.length) (h2 : k ≤ old.length) : (ovr xs old k).length = old.length := by simp [ovr]; omega

/-- A slice of the call's own, of all its row: nothing is asked of an empty one. -/
def Sl (w : World) (p : Option Addr) (g : Nat) (xs : List Value) (t : TypeId) : Prop := 0 < xs.length → p = some ⟨g, 0, none⟩ ∧ Blk w g xs t

theorem Sl.kp {S : List Nat} {w w' : World} {p : Option Addr} {g : Nat} {xs : List Value} {t : TypeId} (h : Sl w p g xs t) (k : Kp S w w') (hg : g ∉ S) : Sl w' p g xs t :=
  fun h0 => ⟨(h h0).1, k.blk (h h0).2 hg⟩
theorem Sl.src {w : World} {p : Option Addr} {g : Nat} {xs : List Value} {t : TypeId} (h : Sl w p g xs t) : Src w p xs := fun h0 => by
  obtain ⟨rfl, hb⟩ := h h0
  exact hb.src h0
theorem Blk.sl {w : World} {g : Nat} {xs : List Value} {t : TypeId} (h : Blk w g xs t) : Sl w (some ⟨g, 0, none⟩) g xs t := fun _ => ⟨rfl, h⟩
theorem Src.keep {w w' : World} {p : Option Addr} {xs : List Value} (h : Src w p xs) (k : Kp [] w w') : Src w' p xs := h.kp k (by simp)

theorem Kp.drop {S : List Nat} {w w' : World} (h : Kp S w w') (hS : ∀ k ∈ S, w.heap.size ≤ k) : Kp [] w w' := h.mono (fun k hk hs => by have := hS k hs; omega)

/-- Where a code stands in a function, also inside an if. -/
def startsAt2 (n : Nat) : Code → Bool
  | .region m _ _ => m == n
  | .seq a _ => startsAt2 n a
  | _ => false
def codeAt2 (n : Nat) : Code → Option (Code × Code)
  | .seq a b => if startsAt2 n a then some (a, b) else match codeAt2 n a with
    | some c => some c
    | none => codeAt2 n b
  | .block _ c => codeAt2 n c
  | .loop c => codeAt2 n c
  | .scope c => codeAt2 n c
  | .cond _ a b => match codeAt2 n a with
    | some c => some c
    | none => codeAt2 n b
  | _ => none
def headOf2 (n : Nat) (f : Func) : Code := ((f.body.bind (codeAt2 n)).getD (.skip, .skip)).1
def restOf2 (n : Nat) (f : Func) : Code := ((f.body.bind (codeAt2 n)).getD (.skip, .skip)).2

/-- What a clone (or a copy into another type) hands back. -/
def Cl (w : World) (n : Nat) (xs : List Value) (t : TypeId) (e : Ending) (w' : World) : Prop :=
  ∃ p, e = .returned (.slice p n n) ∧ Sl w' p w.heap.size xs t ∧ Kp [] w w' ∧ w'.heap.size ≤ w.heap.size + 1

end Go.Proofs.Qxb6601492a
