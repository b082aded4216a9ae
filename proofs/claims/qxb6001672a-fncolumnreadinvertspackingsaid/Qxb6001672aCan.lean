/-
  The batch as column c is read out of it, in three states: no found column; one for another column; one for c.
-/
import Derived.Test.Qxb6001672aAgree
import Derived.Test.Qxb6001672aAdd
set_option linter.unusedSimpArgs false
set_option linter.unusedVariables false
namespace Go.Proofs.Qxb6001672a
open Go.RowKit

/-- Strings for a text column, Ints for another. -/
def Can (w : World) (rB c m : Nat) (xc : Bool) (V : List Int) (S : List ByteArray) (N : List Bool) : Prop :=
  (xc = true → CanStrs w rB c m S N) ∧ (xc = false → CanInts w rB c m V N)

/-- The want arrays. -/
structure Want (w : World) (wiB wsB wnB m : Nat) (V : List Int) (S : List ByteArray) (N : List Bool) : Prop where
  bi : Blk w wiB (V.map (Value.int .i64)) 2
  bs : Blk w wsB (S.map Value.string) 9
  bn : Blk w wnB (N.map Value.bool) 4
  li : V.length = m
  ls : S.length = m
  ln : N.length = m
theorem Want.kp {S' : List Nat} {w w' : World} {wiB wsB wnB m : Nat} {V : List Int} {S : List ByteArray} {N : List Bool} (h : Want w wiB wsB wnB m V S N) (k : Kp S' w w') (h1 : wiB ∉ S') (h2 : wsB ∉ S') (h3 : wnB ∉ S') : Want w' wiB wsB wnB m V S N :=
  ⟨k.blk h.bi h1, k.blk h.bs h2, k.blk h.bn h3, h.li, h.ls, h.ln⟩

theorem agree30 (rB c m wiB wsB wnB : Nat) (xc : Bool) (V : List Int) (S : List ByteArray) (N : List Bool) (an : Bool) (w : World) (hm : m ≤ 64) (hcan : Can w rB c m xc V S N)
    (hw : Want w wiB wsB wnB m V S N) (han : N.any id = an) :
    Calls Try.prog 30 #[.pointer (some ⟨rB, 0, none⟩), .int .i64 c, .bool xc, .slice (some ⟨wiB, 0, none⟩) m m, .slice (some ⟨wsB, 0, none⟩) m m, .slice (some ⟨wnB, 0, none⟩) m m, .bool an] w (RetTrue w) := by
  cases xc
  · exact agreeI30 rB c m wiB wnB _ _ _ V N an w hm (hcan.2 rfl) hw.bi hw.bn hw.li hw.ln han
  · exact agreeS30 rB c m wsB wnB _ _ _ S N an w hm (hcan.1 rfl) hw.bs hw.bn hw.ls hw.ln han

/-- ALL that the batch holds, for column c. -/
structure Batch (w : World) (rB lB sB rwB txB m nC c slot pr ps nulls : Nat) (bw bt : Nat → Nat) (xc : Bool) (V : List Int) (S : List ByteArray) (N : List Bool) : Prop where
  rw_ : RW w rB lB sB rwB m nC c slot pr nulls bw N
  ri : xc = false → RI w m slot pr bw V
  rs : xc = true → RS w rB txB m slot ps bt S
  o1 : lB < rB
  o2 : sB < rB
  o3 : rwB < rB
  o4 : txB < rB
  o5 : ∀ i, i < m → bw i < rB
  o6 : ∀ i, i < m → bt i < rB
  oR : w.cell? ⟨rB, 2, none⟩ = some (.slice (some ⟨txB, 0, none⟩) m m)

theorem low_cell {R : Nat} {w w' : World} (hb : Below R w w') {a : Addr} {v : Value} (ha : a.block < R) (h : w.cell? a = some v) : w'.cell? a = some v := (hb.cell ha).trans h

theorem Batch.upd {w w' : World} {rB lB sB rwB txB m nC c slot pr ps nulls : Nat} {bw bt : Nat → Nat} {xc : Bool} {V : List Int} {S : List ByteArray} {N : List Bool}
    (h : Batch w rB lB sB rwB txB m nC c slot pr ps nulls bw bt xc V S N) (hb : Below rB w w') (h0 : w'.cell? ⟨rB, 0, none⟩ = some (.pointer (some ⟨lB, 0, none⟩)))
    (h1 : w'.cell? ⟨rB, 1, none⟩ = some (.slice (some ⟨rwB, 0, none⟩) m m)) (h2 : w'.cell? ⟨rB, 2, none⟩ = some (.slice (some ⟨txB, 0, none⟩) m m)) :
    Batch w' rB lB sB rwB txB m nC c slot pr ps nulls bw bt xc V S N where
  rw_ := {
    r0 := h0
    r1 := h1
    l0 := low_cell hb h.o1 h.rw_.l0
    l3 := low_cell hb h.o1 h.rw_.l3
    s := low_cell hb h.o2 h.rw_.s
    row := fun i hi => low_cell hb h.o3 (h.rw_.row i hi)
    nul := fun i hi => by obtain ⟨x, e1, e2, e3⟩ := h.rw_.nul i hi; exact ⟨x, e1, low_cell hb (h.o5 i hi) e2, e3⟩
    bm := h.rw_.bm
    bc := h.rw_.bc
    bn := h.rw_.bn
    bu := h.rw_.bu
    bp := h.rw_.bp
    bl := h.rw_.bl
    bs := h.rw_.bs }
  ri := fun e => {
    val := fun i hi => by obtain ⟨y, e1, e2⟩ := (h.ri e).val i hi; exact ⟨y, low_cell hb (h.o5 i hi) e1, e2⟩
    bv := (h.ri e).bv
    bsl := (h.ri e).bsl }
  rs := fun e => {
    r2 := h2
    row := fun i hi => low_cell hb h.o4 ((h.rs e).row i hi)
    val := fun i hi => by obtain ⟨y, e1, e2⟩ := (h.rs e).val i hi; exact ⟨y, low_cell hb (h.o6 i hi) e1, e2⟩
    bv := (h.rs e).bv
    bsl := (h.rs e).bsl }
  o1 := h.o1
  o2 := h.o2
  o3 := h.o3
  o4 := h.o4
  o5 := h.o5
  o6 := h.o6
  oR := h2

/-- No found column answers for c. -/
theorem Batch.can {w : World} {rB lB sB rwB txB m nC c slot pr ps nulls : Nat} {bw bt : Nat → Nat} {xc : Bool} {V : List Int} {S : List ByteArray} {N : List Bool}
    (h : Batch w rB lB sB rwB txB m nC c slot pr ps nulls bw bt xc V S N) (fB fcap : Nat) (fp : Option Addr) (cols : List Int) (hcols : cols.length ≤ 1048576)
    (hR : w.cell? ⟨rB, 4, none⟩ = some (.slice fp cols.length fcap)) (hF : ∀ i x, cols[i]? = some x → fp = some ⟨fB, 0, none⟩ ∧ w.cell? ⟨fB, i * 5, none⟩ = some (.int .i64 x)) (hno : foundAt fB c 0 cols = none) :
    Can w rB c m xc V S N :=
  ⟨fun e w' vB nB vs ns tv tn hb h1 h2 h3 h4 h5 h6 h7 => strs53 rB lB sB rwB fB fcap vB nB m nC c slot pr nulls txB ps fp cols bw bt S N vs ns tv tn w w' h.rw_ (h.rs e) hR hF hcols hno hb h1 h2 h3 h4 h5 h6 h7,
   fun e w' vB nB vs ns tv tn hb h1 h2 h3 h4 h5 h6 h7 => ints54 rB lB sB rwB fB fcap vB nB m nC c slot pr nulls fp cols bw V N vs ns tv tn w w' h.rw_ (h.ri e) hR hF hcols hno hb h1 h2 h3 h4 h5 h6 h7⟩

/-- A found column answers. -/
theorem can_found {w : World} (rB c m fB fcap q : Nat) (xc : Bool) (V : List Int) (S : List ByteArray) (N : List Bool) (fp ip sp np : Option Addr) (cols : List Int) (hcols : cols.length ≤ 1048576)
    (hR : w.cell? ⟨rB, 4, none⟩ = some (.slice fp cols.length fcap)) (hF : ∀ i x, cols[i]? = some x → fp = some ⟨fB, 0, none⟩ ∧ w.cell? ⟨fB, i * 5, none⟩ = some (.int .i64 x)) (hyes : foundAt fB c 0 cols = some ⟨fB, q, none⟩)
    (hD : FD w fB q m ip sp np V S N) : Can w rB c m xc V S N :=
  ⟨fun e w' vB nB vs ns tv tn hb h1 h2 h3 h4 h5 h6 h7 => strs53f rB fB fcap q vB nB m c fp ip sp np cols V S N vs ns tv tn w w' hR hF hD hcols hyes hb h1 h2 h3 h4 h5 h6 h7,
   fun e w' vB nB vs ns tv tn hb h1 h2 h3 h4 h5 h6 h7 => ints54f rB fB fcap q vB nB m c fp ip sp np cols V S N vs ns tv tn w w' hR hF hD hcols hyes hb h1 h2 h3 h4 h5 h6 h7⟩

theorem ownsRow_below {w w' : World} {base : Nat} {e : TypeId} {size : Nat} {v : Value} {n : Nat} {xs : List Value} (h : w.ownsRow base e size v n xs) (hb : Below w.heap.size w w') : w'.ownsRow base e size v n xs :=
  h.kept (row := none) ⟨hb.os, hb.tape, hb.output, hb.size, fun k hk _ => hb.block k hk⟩ (by cases v.ownBlock <;> simp)

/-- Where a code stands in a function: the statement that begins with region n, and what follows it. -/
def startsAt (n : Nat) : Code → Bool
  | .region m _ _ => m == n
  | .seq a _ => startsAt n a
  | _ => false
def codeAt (n : Nat) : Code → Option (Code × Code)
  | .seq a b => if startsAt n a then some (a, b) else match codeAt n a with
    | some c => some c
    | none => codeAt n b
  | .block _ c => codeAt n c
  | .loop c => codeAt n c
  | .scope c => codeAt n c
  | _ => none
def headOf (n : Nat) (f : Func) : Code := ((f.body.bind (codeAt n)).getD (.skip, .skip)).1
def restOf (n : Nat) (f : Func) : Code := ((f.body.bind (codeAt n)).getD (.skip, .skip)).2

end Go.Proofs.Qxb6001672a
