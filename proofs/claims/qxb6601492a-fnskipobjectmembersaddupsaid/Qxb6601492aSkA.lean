/-
  JSON text, with no Go in sight: what skip and skipString pass over.
-/
import Derived.Test.Qxb6601492aMem2
set_option linter.unusedSimpArgs false
set_option linter.unusedVariables false
namespace Go.Proofs.Qxb6601492a
open Go.RowKit

def isW (c : Int) : Bool := c == 32 || c == 9 || c == 13 || c == 10
def ender (c : Int) : Bool := isW c || c == 44 || c == 125 || c == 93
/-- A sign of a number or of a literal. -/
def plain (c : Int) : Bool := !ender c && c != 34 && c != 123 && c != 91

/-- Past the white space from i on. -/
def ws (t : List Int) (i : Nat) : Nat := i + ((t.drop i).takeWhile isW).length
theorem ws_ge (t : List Int) (i : Nat) : i ≤ ws t i := by unfold ws; omega
theorem ws_step {t : List Int} {i : Nat} {c : Int} (h : t[i]? = some c) (hc : isW c = true) : ws t i = ws t (i + 1) := by
  have hi := (List.getElem?_eq_some_iff.1 h).1
  have hv := (List.getElem?_eq_some_iff.1 h).2
  unfold ws
  rw [List.drop_eq_getElem_cons hi, List.takeWhile_cons, hv, if_pos hc]
  simp
  omega
theorem ws_stop {t : List Int} {i : Nat} (h : ∀ c, t[i]? = some c → isW c = false) : ws t i = i := by
  unfold ws
  by_cases hi : i < t.length
  · rw [List.drop_eq_getElem_cons hi, List.takeWhile_cons, if_neg (by rw [h _ (List.getElem?_eq_getElem hi)]; simp)]
    simp
  · rw [List.drop_eq_nil_of_le (by omega)]
    simp
theorem ws_le (t : List Int) (i : Nat) (h : i ≤ t.length) : ws t i ≤ t.length := by
  unfold ws
  have := (List.takeWhile_sublist (l := t.drop i) isW).length_le
  simp at this
  omega

/-- Where skipString stops, from behind the first quote. -/
def ss (t : List Int) : Nat → Nat → Option Nat
  | 0, _ => none
  | f + 1, i => match t[i]? with
    | none => none
    | some c => if c = 34 then some (i + 1) else if c = 92 then ss t f (i + 2) else ss t f (i + 1)
theorem ss_gt {t : List Int} : ∀ {f i k : Nat}, ss t f i = some k → i < k ∧ k ≤ t.length
  | 0, i, k, h => by simp [ss] at h
  | f + 1, i, k, h => by
    unfold ss at h
    cases hc : t[i]? with
    | none => rw [hc] at h; cases h
    | some c =>
      rw [hc] at h
      have hi := (List.getElem?_eq_some_iff.1 hc).1
      simp only at h
      split at h
      · cases h; omega
      · split at h
        · have := ss_gt h; omega
        · have := ss_gt h; omega
theorem ss_quote {t : List Int} {i : Nat} (h : t[i]? = some 34) (f : Nat) : ss t (f + 1) i = some (i + 1) := by simp [ss, h]
theorem ss_esc {t : List Int} {i f : Nat} (h : t[i]? = some 92) : ss t (f + 1) i = ss t f (i + 2) := by simp [ss, h]
theorem ss_char {t : List Int} {i f : Nat} {c : Int} (h : t[i]? = some c) (h1 : c ≠ 34) (h2 : c ≠ 92) : ss t (f + 1) i = ss t f (i + 1) := by simp [ss, h, h1, h2]

/-- A string lies at p, up to k. -/
def STR (t : List Int) (p k : Nat) : Prop := t[p]? = some 34 ∧ ∃ f, ss t f (p + 1) = some k
theorem STR.le {t : List Int} {p k : Nat} (h : STR t p k) : p < k ∧ k ≤ t.length := by
  obtain ⟨_, f, hf⟩ := h
  have := ss_gt hf
  omega

def nd (c : Int) (d : Nat) : Nat := if c = 123 ∨ c = 91 then d + 1 else if c = 125 ∨ c = 93 then d - 1 else d
/-- Counting brackets from i at depth d, skip stops at e. -/
def DS (t : List Int) : Nat → Nat → Nat → Nat → Prop
  | 0, _, _, _ => False
  | f + 1, i, d, e => ∃ c, t[i]? = some c ∧ ((c = 34 ∧ ∃ k, (∃ g, ss t g (i + 1) = some k) ∧ DS t f k d e) ∨ (c ≠ 34 ∧ ((nd c d = 0 ∧ e = i + 1) ∨ (nd c d ≠ 0 ∧ DS t f (i + 1) (nd c d) e))))
theorem DS.lt {t : List Int} : ∀ {f i d e : Nat}, DS t f i d e → i < e ∧ e ≤ t.length
  | 0, _, _, _, h => h.elim
  | f + 1, i, d, e, ⟨c, hc, h⟩ => by
    have hi := (List.getElem?_eq_some_iff.1 hc).1
    rcases h with ⟨_, k, ⟨g, hg⟩, h⟩ | ⟨_, ⟨_, rfl⟩ | ⟨_, h⟩⟩
    · have := DS.lt h
      have := ss_gt hg
      omega
    · omega
    · have := DS.lt h
      omega

/-- What lies from a to b leaves the depth as it was. -/
def Pass (t : List Int) (a b : Nat) : Prop := ∀ d f e, 1 ≤ d → DS t f b d e → ∃ f', DS t f' a d e
theorem Pass.refl (t : List Int) (a : Nat) : Pass t a a := fun d f e _ h => ⟨f, h⟩
theorem Pass.trans {t : List Int} {a b c : Nat} (h : Pass t a b) (k : Pass t b c) : Pass t a c := fun d f e hd hh => by
  obtain ⟨f1, h1⟩ := k d f e hd hh
  exact h d f1 e hd h1
theorem Pass.char {t : List Int} {i : Nat} {c : Int} (h : t[i]? = some c) (h1 : c ≠ 34) (h2 : c ≠ 123) (h3 : c ≠ 91) (h4 : c ≠ 125) (h5 : c ≠ 93) : Pass t i (i + 1) := fun d f e hd hh => by
  have hn : nd c d = d := by simp [nd, h2, h3, h4, h5]
  exact ⟨f + 1, c, h, .inr ⟨h1, .inr (by rw [hn]; exact ⟨by omega, hh⟩)⟩⟩
theorem isW_cases {c : Int} (h : isW c = true) : c = 32 ∨ c = 9 ∨ c = 13 ∨ c = 10 := by simp [isW] at h; omega
theorem Pass.ws {t : List Int} : ∀ (m i : Nat), t.length - i ≤ m → Pass t i (ws t i)
  | m, i, hm => by
    cases hc : t[i]? with
    | none => rw [ws_stop (fun c h => by rw [hc] at h; cases h)]; exact Pass.refl _ _
    | some c =>
      cases hw : isW c with
      | false => rw [ws_stop (fun c' h => by rw [hc] at h; cases h; exact hw)]; exact Pass.refl _ _
      | true =>
        have hi := (List.getElem?_eq_some_iff.1 hc).1
        rw [ws_step hc hw]
        have hcs := isW_cases hw
        refine (Pass.char hc (by omega) (by omega) (by omega) (by omega) (by omega)).trans ?_
        cases m with
        | zero => omega
        | succ m => exact Pass.ws m (i + 1) (by omega)
theorem pass_ws (t : List Int) (i : Nat) : Pass t i (Go.Proofs.Qxb6601492a.ws t i) := Pass.ws _ i (Nat.le_refl _)
theorem STR.pass {t : List Int} {p k : Nat} (h : STR t p k) : Pass t p k := fun d f e hd hh => ⟨f + 1, 34, h.1, .inl ⟨rfl, k, h.2, hh⟩⟩

/-- Signs of a number or a literal from a to b. -/
def PC (t : List Int) (a b : Nat) : Prop := ∀ j, a ≤ j → j < b → ∃ c, t[j]? = some c ∧ plain c = true
theorem PC.nil (t : List Int) (a : Nat) : PC t a a := fun j h1 h2 => by omega
theorem PC.snoc {t : List Int} {a b : Nat} {c : Int} (h : PC t a b) (hc : t[b]? = some c) (hp : plain c = true) : PC t a (b + 1) := fun j h1 h2 => by
  by_cases hj : j = b
  · subst hj; exact ⟨c, hc, hp⟩
  · exact h j h1 (by omega)
theorem plain_ne {c : Int} (h : plain c = true) : c ≠ 34 ∧ c ≠ 123 ∧ c ≠ 91 ∧ c ≠ 125 ∧ c ≠ 93 ∧ c ≠ 44 ∧ isW c = false ∧ ender c = false := by
  simp [plain, ender] at h
  simp [ender]
  obtain ⟨⟨⟨⟨⟨⟨h1, h2⟩, h3⟩, h4⟩, h5⟩, h6⟩, h7⟩ := h
  exact ⟨h5, h6, h7, h3, h4, h2, h1, ⟨⟨h1, h2⟩, h3⟩, h4⟩
theorem PC.pass {t : List Int} : ∀ {n a b : Nat}, b - a = n → a ≤ b → PC t a b → Pass t a b
  | 0, a, b, hn, hab, _ => by
    obtain rfl : a = b := by omega
    exact Pass.refl _ _
  | n + 1, a, b, hn, hab, h => by
    obtain ⟨c, hc, hp⟩ := h a (Nat.le_refl _) (by omega)
    obtain ⟨h1, h2, h3, h4, h5, _⟩ := plain_ne hp
    exact (Pass.char hc h1 h2 h3 h4 h5).trans (PC.pass (n := n) (by omega) (by omega) (fun j hj => h j (by omega)))
def SC (t : List Int) (p e : Nat) : Prop := p < e ∧ e ≤ t.length ∧ PC t p e
def OBJ (t : List Int) (p e : Nat) : Prop :=
  (∃ c, t[p]? = some c ∧ (c = 123 ∨ c = 91)) ∧ ∃ q, e = q + 1 ∧ p < q ∧ (∃ c, t[q]? = some c ∧ (c = 125 ∨ c = 93)) ∧ Pass t (p + 1) q
theorem OBJ.le {t : List Int} {p e : Nat} (h : OBJ t p e) : p < e ∧ e ≤ t.length := by
  obtain ⟨_, q, rfl, h1, ⟨c, h2, _⟩, _⟩ := h
  have := (List.getElem?_eq_some_iff.1 h2).1
  omega
theorem OBJ.pass {t : List Int} {p e : Nat} (h : OBJ t p e) : Pass t p e := by
  obtain ⟨⟨c, hc, ho⟩, q, rfl, hpq, ⟨c', hc', ho'⟩, hp⟩ := h
  intro d f e hd hh
  have h1 : nd c' (d + 1) = d := by
    have : ¬ (c' = 123 ∨ c' = 91) := by omega
    simp [nd, this, ho']
  obtain ⟨f', hf'⟩ := hp (d + 1) (f + 1) e (by omega) ⟨c', hc', .inr ⟨by omega, .inr (by rw [h1]; exact ⟨by omega, hh⟩)⟩⟩
  have h2 : nd c d = d + 1 := by simp [nd, ho]
  exact ⟨f' + 1, c, hc, .inr ⟨by omega, .inr (by rw [h2]; exact ⟨by omega, hf'⟩)⟩⟩
theorem OBJ.skip {t : List Int} {p e : Nat} (h : OBJ t p e) : ∃ f, DS t f p 0 e := by
  obtain ⟨⟨c, hc, ho⟩, q, rfl, hpq, ⟨c', hc', ho'⟩, hp⟩ := h
  have h1 : nd c' 1 = 0 := by
    have : ¬ (c' = 123 ∨ c' = 91) := by omega
    simp [nd, this, ho']
  obtain ⟨f', hf'⟩ := hp 1 1 (q + 1) (by omega) ⟨c', hc', .inr ⟨by omega, .inl ⟨h1, rfl⟩⟩⟩
  have h2 : nd c 0 = 1 := by simp [nd, ho]
  exact ⟨f' + 1, c, hc, .inr ⟨by omega, .inr (by rw [h2]; exact ⟨by omega, hf'⟩)⟩⟩

/-- A value lies at p, up to e. -/
def V (t : List Int) (p e : Nat) : Prop := STR t p e ∨ OBJ t p e ∨ SC t p e
theorem V.le {t : List Int} {p e : Nat} (h : V t p e) : p < e ∧ e ≤ t.length := by
  rcases h with h | h | h
  · exact h.le
  · exact h.le
  · exact ⟨h.1, h.2.1⟩
theorem V.pass {t : List Int} {p e : Nat} (h : V t p e) : Pass t p e := by
  rcases h with h | h | h
  · exact h.pass
  · exact h.pass
  · exact PC.pass rfl (Nat.le_of_lt h.1) h.2.2
/-- What skip stops at. -/
def Sk (t : List Int) (p e : Nat) : Prop := STR t p e ∨ OBJ t p e ∨ (SC t p e ∧ ∀ c, t[e]? = some c → ender c = true)
theorem Sk.le {t : List Int} {p e : Nat} (h : Sk t p e) : p < e ∧ e ≤ t.length := by
  rcases h with h | h | h
  · exact h.le
  · exact h.le
  · exact ⟨h.1.1, h.1.2.1⟩
/-- A value with a comma or a closing brace behind it and white space between. -/
theorem V.sk {t : List Int} {p e : Nat} {c : Int} (h : V t p e) (hc : t[ws t e]? = some c) (he : ender c = true) : Sk t p e := by
  rcases h with h | h | h
  · exact .inl h
  · exact .inr (.inl h)
  · refine .inr (.inr ⟨h, fun c' hc' => ?_⟩)
    cases hw : isW c' with
    | true => simp [ender, hw]
    | false =>
      rw [ws_stop (fun c'' h'' => by rw [hc'] at h''; cases h''; exact hw)] at hc
      rw [hc'] at hc
      cases hc
      exact he

/-- The members from p on, up to the object's end e; f bounds their number. -/
def MW (t : List Int) : Nat → Nat → Nat → Prop
  | 0, _, _ => False
  | f + 1, p, e => ∃ k e', STR t p k ∧ t[ws t k]? = some 58 ∧ ws t (ws t k + 1) < t.length ∧ Sk t (ws t (ws t k + 1)) e' ∧
      ((t[ws t e']? = some 125 ∧ e = ws t e' + 1) ∨ (t[ws t e']? = some 44 ∧ MW t f (ws t (ws t e' + 1)) e))
end Go.Proofs.Qxb6601492a
