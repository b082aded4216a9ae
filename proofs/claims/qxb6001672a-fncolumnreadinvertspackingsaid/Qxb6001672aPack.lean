/-
  PLAIN: the columns' slots; one row of words and strings, packed column by column; what column c reads.
-/
import Derived.Test.Qxb6001672aBits
set_option linter.unusedSimpArgs false
set_option linter.unusedVariables false
namespace Go.Proofs.Qxb6001672a

theorem mul_le_int (k n b : Nat) (h : k * n ≤ b) : (k : Int) * (n : Int) ≤ (b : Int) := by
  have : ((k * n : Nat) : Int) ≤ (b : Int) := by omega
  rwa [Int.natCast_mul] at this
theorem mul_nonneg_int (k n : Nat) : 0 ≤ (k : Int) * (n : Int) := by
  have : 0 ≤ ((k * n : Nat) : Int) := by omega
  rwa [Int.natCast_mul] at this
theorem idx_lt_int (k n c b : Nat) (h : k * n + c < b) : (k : Int) * (n : Int) + (c : Int) < (b : Int) := by
  have : ((k * n + c : Nat) : Int) < (b : Int) := by omega
  rwa [Int.natCast_add, Int.natCast_mul] at this
theorem idx_toNat (k n c : Nat) : ((k : Int) * (n : Int) + (c : Int)).toNat = k * n + c := by
  have : ((k * n + c : Nat) : Int).toNat = k * n + c := Int.toNat_natCast _
  rwa [Int.natCast_add, Int.natCast_mul] at this

/-- How many of the first j columns are of kind b. -/
def cnt (tx : List Bool) (b : Bool) (j : Nat) : Nat := (tx.take j).count b
theorem cnt_zero (tx : List Bool) (b : Bool) : cnt tx b 0 = 0 := by simp [cnt]
theorem cnt_succ (tx : List Bool) (b x : Bool) (j : Nat) (h : tx[j]? = some x) : cnt tx b (j + 1) = cnt tx b j + if x = b then 1 else 0 := by
  have hk : j < tx.length := (List.getElem?_eq_some_iff.1 h).1
  have hv : tx[j] = x := (List.getElem?_eq_some_iff.1 h).2
  unfold cnt
  rw [List.take_succ_eq_append_getElem hk, hv, List.count_append]
  cases x <;> cases b <;> simp
theorem cnt_le (tx : List Bool) (b : Bool) (j : Nat) : cnt tx b j ≤ j := by
  unfold cnt
  have h1 := List.count_le_length (a := b) (l := tx.take j)
  have h2 := List.length_take_le j tx
  omega
theorem cnt_mono (tx : List Bool) (b : Bool) (i j : Nat) (h : i ≤ j) : cnt tx b i ≤ cnt tx b j := by
  unfold cnt
  exact List.Sublist.count_le _ (List.take_sublist_take_left h)
theorem cnt_add (tx : List Bool) (j : Nat) (h : j ≤ tx.length) : cnt tx true j + cnt tx false j = j := by
  induction j with
  | zero => simp [cnt]
  | succ j ih =>
    have hx : tx[j]? = some tx[j] := List.getElem?_eq_getElem (by omega)
    rw [cnt_succ tx true _ j hx, cnt_succ tx false _ j hx]
    have := ih (by omega)
    cases tx[j] <;> simp <;> omega

/-- The slot of column j. -/
def slotOf (tx : List Bool) (j : Nat) : Nat := cnt tx (tx.getD j false) j
theorem slotOf_eq (tx : List Bool) (j : Nat) (x : Bool) (h : tx[j]? = some x) : slotOf tx j = cnt tx x j := by simp [slotOf, h]
theorem slotOf_lt (tx : List Bool) (j : Nat) (x : Bool) (h : tx[j]? = some x) (n : Nat) (hn : j < n) : slotOf tx j < cnt tx x n := by
  rw [slotOf_eq tx j x h]
  have h1 := cnt_succ tx x x j h
  have h2 := cnt_mono tx x (j + 1) n hn
  simp at h1
  omega
theorem slotOf_ne (tx : List Bool) (i j : Nat) (x : Bool) (hi : tx[i]? = some x) (hj : tx[j]? = some x) (hne : i ≠ j) : slotOf tx i ≠ slotOf tx j := by
  rcases Nat.lt_or_gt_of_ne hne with h | h
  · have := slotOf_lt tx i x hi j h
    rw [slotOf_eq tx j x hj]; omega
  · have := slotOf_lt tx j x hj i h
    rw [slotOf_eq tx i x hi]; omega

/-- WHAT HOLDS OF A ROW's WORDS BEHIND THE FIRST j COLUMNS, as column c sees it: nI: how many integer columns; isN: is c NULL in this row; z: c's integer. -/
structure WordsOk (tx : List Bool) (nI pr c : Nat) (isN : Bool) (z : Int) (j : Nat) (W : List Int) : Prop where
  len : W.length = pr
  nul : ∀ q, nI ≤ q → q < pr → ∃ x : Nat, x < 18446744073709551616 ∧ W[q]? = some (x : Int)
  bit : ∀ x : Nat, W[nI + c / 64]? = some (x : Int) → x.testBit (c % 64) = (decide (c < j) && isN)
  val : tx[c]? = some false → W[slotOf tx c]? = some (if c < j ∧ isN = false then IntKind.u64.wrap z else 0)

theorem WordsOk.start (tx : List Bool) (nI pr c : Nat) (isN : Bool) (z : Int) (hs : tx[c]? = some false → slotOf tx c < pr) : WordsOk tx nI pr c isN z 0 (List.replicate pr 0) where
  len := by simp
  nul := fun q _ hq => ⟨0, by omega, by simp [List.getElem?_replicate, hq]⟩
  bit := fun x hx => by
    rw [List.getElem?_replicate] at hx
    split at hx
    · have : x = 0 := by simp at hx; omega
      subst this; simp
    · cases hx
  val := fun h => by simp [List.getElem?_replicate, hs h]

/-- Column j is NULL: its bit is set. -/
theorem WordsOk.setNull {tx : List Bool} {nI pr c : Nat} {isN : Bool} {z : Int} {j : Nat} {W : List Int} (h : WordsOk tx nI pr c isN z j W) (x : Nat) (hx : W[nI + j / 64]? = some (x : Int)) (hlt : x < 18446744073709551616)
    (hI : tx[c]? = some false → slotOf tx c < nI) (hc : c = j → isN = true) :
    WordsOk tx nI pr c isN z (j + 1) (W.set (nI + j / 64) ((x ||| 2 ^ (j % 64) : Nat) : Int)) where
  len := by simp [h.len]
  nul := fun q h1 h2 => by
    by_cases hq : nI + j / 64 = q
    · subst hq
      exact ⟨_, or_set_lt x (j % 64) hlt (Nat.mod_lt _ (by omega)), by rw [List.getElem?_set_self (by rw [h.len]; exact h2)]⟩
    · rw [List.getElem?_set_ne hq]; exact h.nul q h1 h2
  bit := fun y hy => by
    by_cases hq : nI + j / 64 = nI + c / 64
    · rw [← hq, List.getElem?_set_self (List.getElem?_eq_some_iff.1 hx).1] at hy
      simp only [Option.some.injEq] at hy
      have hy' : x ||| 2 ^ (j % 64) = y := by exact_mod_cast hy
      subst hy'
      rw [or_set_bit]
      have h0 := h.bit x (by rw [← hq]; exact hx)
      rw [h0]
      by_cases hcj : c = j
      · subst hcj; simp [hc rfl]
      · have : j % 64 ≠ c % 64 := by omega
        have e : decide (c < j + 1) = decide (c < j) := by
          rw [decide_eq_decide]; omega
        simp [this, e]
    · rw [List.getElem?_set_ne hq] at hy
      rw [h.bit y hy]
      have : c ≠ j := fun e => hq (by rw [e])
      have e : decide (c < j + 1) = decide (c < j) := by rw [decide_eq_decide]; omega
      rw [e]
  val := fun ht => by
    rw [List.getElem?_set_ne (by have := hI ht; omega), h.val ht]
    by_cases hcj : c = j
    · subst hcj; simp [hc rfl]
    · have e : (c < j + 1) ↔ (c < j) := by omega
      simp [e]

/-- Column j, an integer column, holds v. -/
theorem WordsOk.setInt {tx : List Bool} {nI pr c : Nat} {isN : Bool} {z : Int} {j : Nat} {W : List Int} (h : WordsOk tx nI pr c isN z j W) (v : Int) (hj : tx[j]? = some false) (hjs : slotOf tx j < nI) (hnp : nI ≤ pr)
    (hc : c = j → isN = false ∧ v = z) : WordsOk tx nI pr c isN z (j + 1) (W.set (slotOf tx j) (IntKind.u64.wrap v)) where
  len := by simp [h.len]
  nul := fun q h1 h2 => by rw [List.getElem?_set_ne (by omega)]; exact h.nul q h1 h2
  bit := fun y hy => by
    rw [List.getElem?_set_ne (by omega)] at hy
    rw [h.bit y hy]
    by_cases hcj : c = j
    · subst hcj; simp [(hc rfl).1]
    · have e : decide (c < j + 1) = decide (c < j) := by rw [decide_eq_decide]; omega
      rw [e]
  val := fun ht => by
    by_cases hcj : c = j
    · subst hcj
      obtain ⟨h1, rfl⟩ := hc rfl
      rw [List.getElem?_set_self (by rw [h.len]; omega)]
      simp [h1]
    · rw [List.getElem?_set_ne (slotOf_ne tx j c false hj ht (fun e => hcj e.symm)), h.val ht]
      have e : (c < j + 1) ↔ (c < j) := by omega
      simp [e]

/-- Column j's string lies elsewhere. -/
theorem WordsOk.pass {tx : List Bool} {nI pr c : Nat} {isN : Bool} {z : Int} {j : Nat} {W : List Int} (h : WordsOk tx nI pr c isN z j W) (hj : tx[j]? = some true) (hc : c = j → isN = false) : WordsOk tx nI pr c isN z (j + 1) W where
  len := h.len
  nul := h.nul
  bit := fun y hy => by
    rw [h.bit y hy]
    by_cases hcj : c = j
    · subst hcj; simp [hc rfl]
    · have e : decide (c < j + 1) = decide (c < j) := by rw [decide_eq_decide]; omega
      rw [e]
  val := fun ht => by
    have hcj : c ≠ j := fun e => by subst e; rw [hj] at ht; cases ht
    rw [h.val ht]
    have e : (c < j + 1) ↔ (c < j) := by omega
    simp [e]

/-- The row's strings. -/
structure StrsOk (tx : List Bool) (nS c : Nat) (isN : Bool) (s : ByteArray) (j : Nat) (T : List ByteArray) : Prop where
  len : T.length = nS
  val : tx[c]? = some true → T[slotOf tx c]? = some (if c < j ∧ isN = false then s else ByteArray.empty)

theorem StrsOk.start (tx : List Bool) (nS c : Nat) (isN : Bool) (s : ByteArray) (hs : tx[c]? = some true → slotOf tx c < nS) : StrsOk tx nS c isN s 0 (List.replicate nS ByteArray.empty) where
  len := by simp
  val := fun h => by simp [List.getElem?_replicate, hs h]

theorem StrsOk.setStr {tx : List Bool} {nS c : Nat} {isN : Bool} {s : ByteArray} {j : Nat} {T : List ByteArray} (h : StrsOk tx nS c isN s j T) (v : ByteArray) (hj : tx[j]? = some true) (hjs : slotOf tx j < nS)
    (hc : c = j → isN = false ∧ v = s) : StrsOk tx nS c isN s (j + 1) (T.set (slotOf tx j) v) where
  len := by simp [h.len]
  val := fun ht => by
    by_cases hcj : c = j
    · subst hcj
      obtain ⟨h1, rfl⟩ := hc rfl
      rw [List.getElem?_set_self (by rw [h.len]; omega)]
      simp [h1]
    · rw [List.getElem?_set_ne (slotOf_ne tx j c true hj ht (fun e => hcj e.symm)), h.val ht]
      have e : (c < j + 1) ↔ (c < j) := by omega
      simp [e]

theorem StrsOk.pass {tx : List Bool} {nS c : Nat} {isN : Bool} {s : ByteArray} {j : Nat} {T : List ByteArray} (h : StrsOk tx nS c isN s j T) (hc : c = j → tx[c]? = some true → isN = true) : StrsOk tx nS c isN s (j + 1) T where
  len := h.len
  val := fun ht => by
    rw [h.val ht]
    by_cases hcj : c = j
    · subst hcj; simp [hc rfl ht]
    · have e : (c < j + 1) ↔ (c < j) := by omega
      simp [e]

end Go.Proofs.Qxb6001672a
