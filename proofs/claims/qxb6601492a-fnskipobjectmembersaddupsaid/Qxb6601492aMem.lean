/-
  GENERAL, NO PROGRAM: blocks of the call's own ('Blk'), and what a step leaves alone ('Kp').
-/
import Derived.WalkKit
import Derived.Deep.OwnRows
import Derived.Laws.CopyOwn
import Derived.Deep.QuietTactic
import Derived.BigQuiet
import Derived.Deep.RegionHeld3
import Derived.Deep.AppendLies
import Derived.Deep.DeepCutAuto
import Derived.Deep.CutBlock
import Derived.Deep.DeepFit
import Derived.Deep.LoopGhost
import Derived.Deep.Light
import Derived.WalkLawsBesides
import Derived.WalkSpells
namespace Go.Proofs.Qxb6601492a
open Go.RowKit

/-- Block b of w is a plain row that holds xs. -/
def Blk (w : World) (b : Nat) (xs : List Value) (t : TypeId) : Prop := w.heap[b]? = some (.cells xs.toArray t (0, 0))

theorem Blk.lt {w : World} {b : Nat} {xs : List Value} {t : TypeId} (h : Blk w b xs t) : b < w.heap.size := by
  unfold Blk at h
  exact (Array.getElem?_eq_some_iff.1 h).1

theorem Blk.cell? {w : World} {b : Nat} {xs : List Value} {t : TypeId} (h : Blk w b xs t) (i : Nat) : w.cell? ⟨b, i, none⟩ = xs[i]? := by
  rw [cell_of_row w b i _ t _ h]
  simp

theorem Blk.cell {w : World} {b : Nat} {xs : List Value} {t : TypeId} (h : Blk w b xs t) {i : Nat} {v : Value} (hv : xs[i]? = some v) : w.cell? ⟨b, i, none⟩ = some v := by
  rw [h.cell? i, hv]

theorem Blk.frozen {w : World} {b : Nat} {xs : List Value} {t : TypeId} (h : Blk w b xs t) (i : Nat) : w.frozen? ⟨b, i, none⟩ = false :=
  frozen_of_row w b i _ t h

theorem Blk.new (w : World) (cs : Array Value) (t : TypeId) : Blk (w.alloc (.cells cs t)) w.heap.size cs.toList t := by
  unfold Blk
  rw [heap_alloc_new]

theorem Blk.set {w : World} {b : Nat} {xs : List Value} {t : TypeId} (h : Blk w b xs t) (i : Nat) (v : Value) : Blk (w.setCell ⟨b, i, none⟩ v) b (xs.set i v) t := by
  unfold Blk at *
  rw [heap_setCell_same w b i _ t v h]
  simp

theorem Blk.drew {w : World} {b : Nat} {xs : List Value} {t : TypeId} (h : Blk w b xs t) : Blk w.drew b xs t := h

theorem Blk.drewN {w : World} {b : Nat} {xs : List Value} {t : TypeId} (h : Blk w b xs t) (n : Nat) : Blk (w.drewN n) b xs t := h

theorem Blk.setRow {w : World} {b : Nat} {xs : List Value} {t : TypeId} (h : Blk w b xs t) (ys : Array Value) : Blk (w.setRow b ys) b ys.toList t := by
  unfold Blk at *
  rw [setRow_heap w b _ ys t _ h]

theorem Blk.same {w : World} {b : Nat} {xs ys : List Value} {t u : TypeId} (h : Blk w b xs t) (k : Blk w b ys u) : xs = ys := by
  unfold Blk at *
  rw [h] at k
  simp at k
  exact k.1

/-- From w to w' only the blocks of S may have turned, and new ones come. -/
structure Kp (S : List Nat) (w w' : World) : Prop where
  os : w'.os = w.os
  tape : w'.tape = w.tape
  output : w'.output = w.output
  size : w.heap.size ≤ w'.heap.size
  block : ∀ k, k < w.heap.size → k ∉ S → w'.heap[k]? = w.heap[k]?

theorem Kp.refl (S : List Nat) (w : World) : Kp S w w := ⟨rfl, rfl, rfl, Nat.le_refl _, fun _ _ _ => rfl⟩
theorem Kp.trans {S : List Nat} {a b c : World} (h : Kp S a b) (k : Kp S b c) : Kp S a c :=
  ⟨k.os.trans h.os, k.tape.trans h.tape, k.output.trans h.output, Nat.le_trans h.size k.size,
   fun i hi hs => (k.block i (Nat.lt_of_lt_of_le hi h.size) hs).trans (h.block i hi hs)⟩
theorem Kp.then {S T : List Nat} {a b c : World} (h : Kp S a b) (k : Kp T b c) (hT : ∀ i ∈ T, i ∈ S ∨ a.heap.size ≤ i) : Kp S a c :=
  ⟨k.os.trans h.os, k.tape.trans h.tape, k.output.trans h.output, Nat.le_trans h.size k.size,
   fun i hi hs => (k.block i (Nat.lt_of_lt_of_le hi h.size) (fun e => by rcases hT i e with h1 | h1; · exact hs h1
                                                                         · omega)).trans (h.block i hi hs)⟩
theorem Kp.mono {S T : List Nat} {a b : World} (h : Kp S a b) (hST : ∀ k, k < a.heap.size → k ∈ S → k ∈ T) : Kp T a b :=
  ⟨h.os, h.tape, h.output, h.size, fun k hk hs => h.block k hk (fun e => hs (hST k hk e))⟩
theorem Kp.drew {S : List Nat} {a w : World} (h : Kp S a w) : Kp S a w.drew := ⟨h.os, h.tape, h.output, h.size, h.block⟩
theorem Kp.drewN {S : List Nat} {a w : World} (h : Kp S a w) (n : Nat) : Kp S a (w.drewN n) := ⟨h.os, h.tape, h.output, h.size, h.block⟩
theorem Kp.alloc {S : List Nat} {a w : World} (h : Kp S a w) (o : Obj) : Kp S a (w.alloc o) :=
  h.trans ⟨rfl, rfl, rfl, by simp, fun k hk _ => Below.heap_alloc _ _ _ hk⟩
theorem Kp.setCell {S : List Nat} {a w : World} (h : Kp S a w) {p : Addr} (hp : p.block ∈ S ∨ a.heap.size ≤ p.block) (u : Value) : Kp S a (w.setCell p u) :=
  ⟨h.os, h.tape, h.output, by simpa [World.setCell] using h.size, fun k hk hs => by
    rw [Below.heap_setCell _ _ _ _ (by rcases hp with hp | hp; · exact fun e => hs (e ▸ hp)
                                       · omega)]
    exact h.block k hk hs⟩
theorem Kp.setRow {S : List Nat} {a w : World} (h : Kp S a w) {g : Nat} (hp : g ∈ S ∨ a.heap.size ≤ g) (cs : Array Value) : Kp S a (w.setRow g cs) :=
  ⟨h.os, h.tape, h.output, by simpa using h.size, fun k hk hs => by
    rw [setRow_other w g k cs (by rcases hp with hp | hp; · exact fun e => hs (e ▸ hp)
                                  · omega)]
    exact h.block k hk hs⟩
theorem Kp.blk {S : List Nat} {a w : World} (h : Kp S a w) {b : Nat} {xs : List Value} {t : TypeId} (hb : Blk a b xs t) (hs : b ∉ S) : Blk w b xs t := by
  have hl := hb.lt
  unfold Blk at *
  rw [h.block b hl hs, hb]
theorem Kp.cell {S : List Nat} {a w : World} (h : Kp S a w) {p : Addr} (hp : p.block < a.heap.size) (hs : p.block ∉ S) : w.cell? p = a.cell? p :=
  World.cell?_of_block (w := a) (h.block p.block hp hs)
theorem Kp.below {S : List Nat} {B : Nat} {w0 a w : World} (hb : Below B w0 a) (h : Kp S a w) (hB : B ≤ a.heap.size) (hS : ∀ k ∈ S, B ≤ k) : Below B w0 w :=
  hb.trans ⟨h.os, h.tape, h.output, h.size, fun k hk => h.block k (by omega) (fun e => by have := hS k e; omega)⟩
theorem Below.kp {w w' : World} (h : Below w.heap.size w w') : Kp [] w w' := ⟨h.os, h.tape, h.output, h.size, fun k hk _ => h.block k hk⟩
theorem Kp.toBelow {w w' : World} (h : Kp [] w w') : Below w.heap.size w w' := ⟨h.os, h.tape, h.output, h.size, fun k hk => h.block k hk (by simp)⟩

theorem Kp.of_grown {w w' : World} {row : Option Nat} (h : w.grownBy w' row) : Kp row.toList w w' :=
  ⟨h.os, h.tape, h.output, h.size, fun k hk hs => h.block k hk (fun e => hs (by simp [← e]))⟩
theorem two_alloc (w : World) (A B : Array Value) (t u : TypeId) : Blk ((w.alloc (.cells A t)).alloc (.cells B u)) w.heap.size A.toList t ∧
    Blk ((w.alloc (.cells A t)).alloc (.cells B u)) (w.heap.size + 1) B.toList u ∧ Below w.heap.size w ((w.alloc (.cells A t)).alloc (.cells B u)) := by
  refine ⟨((Kp.refl [] _).alloc _).blk (Blk.new w A t) (by simp), ?_, ((Below.refl _ _).alloc (Nat.le_refl _) _).alloc (by simp) _⟩
  have := Blk.new (w.alloc (.cells A t)) B u
  simpa using this
theorem replicate_set_last (z v : Value) (m : Nat) : (List.replicate (m + 1) z).set m v = List.replicate m z ++ [v] := by
  rw [List.replicate_succ', List.set_append]
  simp
theorem made_set_last (z v : Value) (m : Nat) : ((madeCells #[z] (m + 1)).setIfInBounds m v).toList = List.replicate m z ++ [v] := by
  rw [Array.toList_setIfInBounds, toList_madeCells_one, replicate_set_last]
theorem made_at (z : Value) (n i : Nat) (h : i < n) : (madeCells #[z] n)[i]? = some z := by
  rw [← Array.getElem?_toList, toList_madeCells_one, List.getElem?_replicate, if_pos h]
theorem made_list (z : Value) (n : Nat) : (madeCells #[z] n).toList = List.replicate n z := toList_madeCells_one z n


/-- The first k of xs, the rest still zero. -/
def fill (xs : List Value) (z : Value) (k : Nat) : List Value := xs.take k ++ List.replicate (xs.length - k) z
theorem fill_zero (xs : List Value) (z : Value) : fill xs z 0 = List.replicate xs.length z := by simp [fill]
theorem fill_all (xs : List Value) (z : Value) (k : Nat) (h : xs.length ≤ k) : fill xs z k = xs := by
  simp [fill, List.take_of_length_le h, Nat.sub_eq_zero_of_le h]
theorem fill_len (xs : List Value) (z : Value) (k : Nat) (h : k ≤ xs.length) : (fill xs z k).length = xs.length := by simp [fill]; omega
theorem fill_set (xs : List Value) (z : Value) (k : Nat) (v : Value) (h : xs[k]? = some v) : (fill xs z k).set k v = fill xs z (k + 1) := by
  have hk : k < xs.length := (List.getElem?_eq_some_iff.1 h).1
  have hv : xs[k] = v := (List.getElem?_eq_some_iff.1 h).2
  unfold fill
  rw [List.set_append]
  have hl : (xs.take k).length = k := by simp; omega
  rw [if_neg (by omega), hl, Nat.sub_self, List.take_succ_eq_append_getElem hk, hv]
  obtain ⟨m, hm⟩ : ∃ m, xs.length - k = m + 1 := ⟨xs.length - k - 1, by omega⟩
  rw [hm, show xs.length - (k + 1) = m by omega, List.replicate_succ]
  simp
theorem fill_at (xs : List Value) (z : Value) (k : Nat) (h : k < xs.length) : (fill xs z k)[k]? = some z := by
  unfold fill
  have hl : (xs.take k).length = k := by simp; omega
  rw [List.getElem?_append_right (by omega), hl, Nat.sub_self, List.getElem?_replicate, if_pos (by omega)]

/-- The first k of xs laid over old. -/
def ovr (xs old : List Value) (k : Nat) : List Value := xs.take k ++ old.drop k
theorem ovr_zero (xs old : List Value) : ovr xs old 0 = old := by simp [ovr]
theorem ovr_all (xs old : List Value) (k : Nat) (h : xs.length = k) : ovr xs old k = xs ++ old.drop k := by simp [ovr, List.take_of_length_le (Nat.le_of_eq h)]
theorem ovr_at (xs old : List Value) (k : Nat) (h : k ≤ xs.length) : (ovr xs old k)[k]? = old[k]? := by
  unfold ovr
  have hl : (xs.take k).length = k := by simp; omega
  rw [List.getElem?_append_right (by omega), hl, Nat.sub_self]
  simp
theorem ovr_set (xs old : List Value) (k : Nat) (v : Value) (h : xs[k]? = some v) (ho : k < old.length) : (ovr xs old k).set k v = ovr xs old (k + 1) := by
  have hk : k < xs.length := (List.getElem?_eq_some_iff.1 h).1
  have hv : xs[k] = v := (List.getElem?_eq_some_iff.1 h).2
  unfold ovr
  rw [List.set_append]
  have hl : (xs.take k).length = k := by simp; omega
  rw [if_neg (by omega), hl, Nat.sub_self, List.take_succ_eq_append_getElem hk, hv, List.drop_eq_getElem_cons ho, List.set_cons_zero, List.append_assoc, List.singleton_append]

/-- What a slice value (its address, its cells) is known to read: nothing is asked of an empty one. -/
def Src (w : World) (p : Option Addr) (xs : List Value) : Prop :=
  0 < xs.length → ∃ b o, p = some ⟨b, o, none⟩ ∧ b < w.heap.size ∧ ∀ i v, xs[i]? = some v → w.cell? ⟨b, o + i, none⟩ = some v

theorem Src.kp {S : List Nat} {w w' : World} {p : Option Addr} {xs : List Value} (h : Src w p xs) (k : Kp S w w') (hS : ∀ a, p = some a → a.block ∉ S) : Src w' p xs := by
  intro h0
  obtain ⟨b, o, rfl, hb, hc⟩ := h h0
  exact ⟨b, o, rfl, Nat.lt_of_lt_of_le hb k.size, fun i v hv => (k.cell (p := ⟨b, o + i, none⟩) hb (hS ⟨b, o, none⟩ rfl)).trans (hc i v hv)⟩

theorem Blk.src {w : World} {b : Nat} {xs : List Value} {t : TypeId} (h : Blk w b xs t) : Src w (some ⟨b, 0, none⟩) xs :=
  fun _ => ⟨b, 0, rfl, h.lt, fun i v hv => by rw [Nat.zero_add]; exact h.cell hv⟩

theorem getElem?_lt_some {α : Type} (xs : List α) (i : Nat) (h : i < xs.length) : ∃ v, xs[i]? = some v := ⟨xs[i], List.getElem?_eq_getElem h⟩

/-- copy into a row of the call's own, at its head. -/
theorem wpList_copy_blk {P : Program} {w : World} {ops : Array Oper} {rest : List Oper} {o : Oper} {a : Act} {Q : Exit → Act → World → Prop} (hgd : o.guard = none) (d s : Operand) (dT sT : TypeId)
    (ho : o.op = .call { callee := .builtin .copy, args := #[d, s], argTypes := #[dT, sT] }) (elem : TypeId) (hu : P.underlying dT = some (.slice elem)) (hsz : (P.info? elem).map (·.size) = some 1)
    (dp sp : Option Addr) (dLen dCap sLen sCap : Nat) (hd : a.eval d = .slice dp dLen dCap) (hs : a.eval s = .slice sp sLen sCap)
    (g : Nat) (cur : List Value) (t : TypeId) (hg : Blk w g cur t) (cs : List Value) (hn : cs.length = Nat.min sLen dLen)
    (hdp : 0 < cs.length → dp = some ⟨g, 0, none⟩) (hsrc : Src w sp cs)
    (hfit : cs.length ≤ cur.length) (h1 : ∀ v ∈ cs, v.oneCell' = true)
    (h : ∀ w', Blk w' g (cs ++ cur.drop cs.length) t → Kp [g] w w' → w'.heap.size = w.heap.size → wpList P ops Q rest (a.put o.dst (goInt cs.length)) w') :
    wpList P ops Q (o :: rest) a w := by
  by_cases h0 : cs.length = 0
  · obtain rfl : cs = [] := List.eq_nil_of_length_eq_zero h0
    refine wpList_copy_nothing hgd d s dT sT ho elem hu hsz dp sp dLen dCap sLen sCap hd hs (by simpa using hn.symm) ?_
    exact h w (by simpa using hg) (Kp.refl _ _) rfl
  · obtain rfl := hdp (by omega)
    obtain ⟨b, off, rfl, hb, hc⟩ := hsrc (by omega)
    refine wpList_copy_own hgd d s dT sT ho elem hu hsz g 0 dLen dCap ⟨b, off, none⟩ sLen sCap hd hs cur.toArray t hg cs hn (fun j v hv => by rw [Addr.add_lit]; exact hc j v hv) (by simpa using hfit) h1 ?_
    refine h _ ?_ ((Kp.refl _ _).setRow (.inl (by simp)) _) (by simp)
    have := hg.setRow (cs ++ cur.drop cs.length).toArray
    simpa using this

end Go.Proofs.Qxb6601492a
