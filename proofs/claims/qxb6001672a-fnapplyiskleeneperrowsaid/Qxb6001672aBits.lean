/-
  PLAIN: the null bits of a row's words.
-/
import Derived.WalkKit
namespace Go.Proofs.Qxb6001672a

theorem pow_lt64 (j : Nat) (hj : j < 64) : 2 ^ j < 18446744073709551616 :=
  Nat.lt_of_lt_of_le (Nat.pow_lt_pow_right (by omega) hj) (by decide)

theorem wrap_bit (j : Nat) (hj : j < 64) : IntKind.u64.wrap (2 ^ j) = ((2 ^ j : Nat) : Int) := by
  have h := pow_lt64 j hj
  rw [IntKind.wrap_u64]
  have e : ((2 : Int) ^ j) = ((2 ^ j : Nat) : Int) := by simp
  rw [e]
  generalize 2 ^ j = q at h
  omega

theorem pow2_ne (j : Nat) : ((2 : Int) ^ j) ≠ 0 := by
  have h : (2 : Nat) ^ j ≠ 0 := by have := Nat.two_pow_pos j; omega
  have e : ((2 : Int) ^ j) = ((2 ^ j : Nat) : Int) := by simp
  rw [e]
  exact fun h' => h (by exact_mod_cast h')

theorem and_pow (x j : Nat) : x &&& 2 ^ j = if x.testBit j then 2 ^ j else 0 := by
  apply Nat.eq_of_testBit_eq
  intro i
  by_cases hij : j = i
  · subst hij
    by_cases hx : x.testBit j
    · simp [hx]
    · simp [hx]
  · by_cases hx : x.testBit j
    · simp [hx, hij]
    · simp [hx, hij]

theorem and_val (x j : Nat) (hx : x < 18446744073709551616) (hj : j < 64) :
    bits .and .u64 (x : Int) (IntKind.u64.wrap (2 ^ j)) = if x.testBit j then ((2 ^ j : Nat) : Int) else 0 := by
  rw [wrap_bit j hj, u64_and_nat x (2 ^ j) hx (pow_lt64 j hj), and_pow]
  split <;> simp

theorem and_ne0 (x j : Nat) (hx : x < 18446744073709551616) (hj : j < 64) :
    (bits .and .u64 (x : Int) (IntKind.u64.wrap (2 ^ j)) != 0) = x.testBit j := by
  rw [and_val x j hx hj]
  have : ((2 : Int) ^ j) ≠ 0 := pow2_ne j
  cases x.testBit j <;> simp [this]

/-- The gathered word: some bit was set. -/
theorem or_gather (b nb : Bool) (x j : Nat) (hx : x < 18446744073709551616) (hj : j < 64) (hn : x.testBit j = nb) :
    bits .or .u64 (if b then ((2 ^ j : Nat) : Int) else 0) (bits .and .u64 (x : Int) (IntKind.u64.wrap (2 ^ j))) = if (b || nb) then ((2 ^ j : Nat) : Int) else 0 := by
  rw [and_val x j hx hj, hn]
  have h := pow_lt64 j hj
  have h1 : bits .or .u64 ((2 ^ j : Nat) : Int) ((2 ^ j : Nat) : Int) = ((2 ^ j : Nat) : Int) := by rw [u64_or_nat _ _ h h, Nat.or_self]
  have h2 : bits .or .u64 ((2 ^ j : Nat) : Int) 0 = ((2 ^ j : Nat) : Int) := by
    have := u64_or_nat (2 ^ j) 0 h (by omega)
    simpa using this
  have h3 : bits .or .u64 0 ((2 ^ j : Nat) : Int) = ((2 ^ j : Nat) : Int) := by
    have := u64_or_nat 0 (2 ^ j) (by omega) h
    simpa using this
  have h4 : bits .or .u64 0 0 = 0 := by
    have := u64_or_nat 0 0 (by omega) (by omega)
    simpa using this
  cases b <;> cases nb <;> simp only [Bool.or_self, Bool.or_true, Bool.true_or, if_true, Bool.false_eq_true, if_false] <;> assumption

theorem gather_ne0 (b : Bool) (j : Nat) : ((if b then ((2 ^ j : Nat) : Int) else 0) != 0) = b := by
  have := pow2_ne j
  cases b
  · simp
  · simp [this]

/-- The word that has been gathered behind k rows. -/
def gw (N : List Bool) (j k : Nat) : Int := if (N.take k).any id then ((2 ^ j : Nat) : Int) else 0
theorem any_take_succ (N : List Bool) (k : Nat) (b : Bool) (h : N[k]? = some b) : (N.take (k + 1)).any id = ((N.take k).any id || b) := by
  have hk : k < N.length := (List.getElem?_eq_some_iff.1 h).1
  have hv : N[k] = b := (List.getElem?_eq_some_iff.1 h).2
  rw [List.take_succ_eq_append_getElem hk, hv]
  simp
theorem gw_zero (N : List Bool) (j : Nat) : gw N j 0 = 0 := by simp [gw]
theorem gw_succ (N : List Bool) (j k x : Nat) (hx : x < 18446744073709551616) (hj : j < 64) (h : N[k]? = some (x.testBit j)) :
    bits .or .u64 (gw N j k) (bits .and .u64 (x : Int) (IntKind.u64.wrap (2 ^ j))) = gw N j (k + 1) := by
  unfold gw
  rw [any_take_succ N k _ h]
  exact or_gather _ _ x j hx hj rfl
theorem gw_ne0 (N : List Bool) (j k : Nat) (h : N.length ≤ k) : (gw N j k != 0) = N.any id := by
  unfold gw
  rw [List.take_of_length_le h]
  exact gather_ne0 _ _

/-- Setting a bit. -/
theorem or_set (x j : Nat) (hx : x < 18446744073709551616) (hj : j < 64) :
    bits .or .u64 (x : Int) (IntKind.u64.wrap (2 ^ j)) = ((x ||| 2 ^ j : Nat) : Int) := by
  rw [wrap_bit j hj, u64_or_nat x (2 ^ j) hx (pow_lt64 j hj)]

theorem or_set_lt (x j : Nat) (hx : x < 18446744073709551616) (hj : j < 64) : x ||| 2 ^ j < 18446744073709551616 :=
  Nat.or_lt_two_pow (n := 64) hx (pow_lt64 j hj)

theorem or_set_bit (x j i : Nat) : (x ||| 2 ^ j).testBit i = (x.testBit i || decide (j = i)) := by
  rw [Nat.testBit_or, Nat.testBit_two_pow]

end Go.Proofs.Qxb6001672a
