/-
  The ring: the plain law, and two laws of operations in a region that draws its order.
-/
import Derived.Test.Qxb6601367aRows
import Derived.Test.Qxb6601367aMem2
import Derived.Deep.RegionLaw
set_option linter.unusedSimpArgs false
set_option linter.unusedVariables false
namespace Go.Proofs.Qxb6601367a
open Go.RowKit

theorem hide {p : Prop} (h : p) : Hid p := h
theorem unhide {p : Prop} (h : Hid p) : p := h

/-! ### The plain law: a write is its bytes' writes, one by one. -/
def bw (size : Nat) (s : List Int × Nat) (x : Int) : List Int × Nat :=
  if s.1.length < size then (s.1 ++ [x], s.2) else (s.1.set s.2 x, (s.2 + 1) % size)
def W (size : Nat) (b : List Int) (nx : Nat) (ps : List Int) : List Int × Nat := ps.foldl (bw size) (b, nx)
theorem W_nil (size : Nat) (b : List Int) (nx : Nat) : W size b nx [] = (b, nx) := rfl
theorem W_append (size : Nat) (b : List Int) (nx : Nat) (ps qs : List Int) : W size b nx (ps ++ qs) = W size (W size b nx ps).1 (W size b nx ps).2 qs := by
  simp [W, List.foldl_append]
theorem W_cons (size : Nat) (b : List Int) (nx : Nat) (x : Int) (ps : List Int) : W size b nx (x :: ps) = W size (bw size (b, nx) x).1 (bw size (b, nx) x).2 ps := rfl
theorem W_fill (size nx : Nat) : ∀ (ps b : List Int), b.length + ps.length ≤ size → W size b nx ps = (b ++ ps, nx)
  | [], b, _ => by simp [W]
  | x :: ps, b, h => by
    have hl : b.length < size := by simp at h; omega
    rw [W_cons]
    have e : bw size (b, nx) x = (b ++ [x], nx) := by simp [bw, hl]
    rw [e, W_fill size nx ps (b ++ [x]) (by simp at h ⊢; omega)]
    simp
theorem W_full (size : Nat) : ∀ (ps b : List Int) (nx : Nat), b.length = size → nx < size → nx + ps.length ≤ size →
    W size b nx ps = (b.take nx ++ ps ++ b.drop (nx + ps.length), (nx + ps.length) % size)
  | [], b, nx, hb, hn, _ => by simp [W, Nat.mod_eq_of_lt hn]
  | x :: ps, b, nx, hb, hn, h => by
    have e : bw size (b, nx) x = (b.set nx x, (nx + 1) % size) := by simp [bw, hb]
    rw [W_cons, e]
    simp only [List.length_cons] at h ⊢
    by_cases h1 : nx + 1 < size
    · simp only [Nat.mod_eq_of_lt h1]
      rw [W_full size ps (b.set nx x) (nx + 1) (by simp [hb]) h1 (by omega)]
      have t1 : (b.set nx x).take (nx + 1) = b.take nx ++ [x] := by
        rw [List.set_eq_take_append_cons_drop, if_pos (by omega)]
        simp [List.take_append]
        have : nx ≤ b.length := by omega
        simp [Nat.min_eq_left this]
        rw [List.take_take, Nat.min_eq_right (by omega)]
      have t2 : (b.set nx x).drop (nx + 1 + ps.length) = b.drop (nx + 1 + ps.length) := by
        rw [List.drop_set, if_pos (by omega)]
      rw [t1, t2]
      have : nx + (ps.length + 1) = nx + 1 + ps.length := by omega
      rw [this]
      simp
    · have h2 : nx + 1 = size := by omega
      have h3 : ps = [] := List.eq_nil_of_length_eq_zero (by omega)
      subst h3
      simp only [W_nil]
      have t1 : b.set nx x = b.take nx ++ [x] ++ b.drop (nx + 1) := by
        rw [List.set_eq_take_append_cons_drop, if_pos (by omega)]
        simp
      simp [t1]
theorem W_len (size : Nat) : ∀ (ps b : List Int) (nx : Nat), b.length ≤ size → (W size b nx ps).1.length ≤ size
  | [], b, nx, h => h
  | x :: ps, b, nx, h => by
    rw [W_cons]
    refine W_len size ps _ _ ?_
    unfold bw
    by_cases h1 : b.length < size
    · simp [h1]; omega
    · simp [h1]; omega
theorem W_next (size : Nat) (hs : 0 < size) : ∀ (ps b : List Int) (nx : Nat), nx < size → (W size b nx ps).2 < size
  | [], b, nx, h => h
  | x :: ps, b, nx, h => by
    rw [W_cons]
    refine W_next size hs ps _ _ ?_
    unfold bw
    by_cases h1 : b.length < size
    · simp [h1]; omega
    · simp [h1]; exact Nat.mod_lt _ hs
theorem W_zero (size : Nat) (hs : 0 < size) : ∀ (ps b : List Int) (nx : Nat), b.length ≤ size → (b.length < size → nx = 0) → ((W size b nx ps).1.length < size → (W size b nx ps).2 = 0)
  | [], b, nx, _, h => h
  | x :: ps, b, nx, hl, h => by
    rw [W_cons]
    unfold bw
    by_cases h1 : b.length < size
    · simp only [h1, if_true]
      exact W_zero size hs ps _ _ (by simp; omega) (fun _ => h h1)
    · simp only [h1, if_false]
      exact W_zero size hs ps _ _ (by simp; omega) (fun h2 => by simp at h2; omega)

/-! ### Operations -/
section
variable {P : Program} (w : World)
/-- 'append(s, x...)' of a row of the call's own that is not nil, whatever is appended. -/
theorem step_append_any {ops : Array Oper} {o : Oper} {a : Act} {K : Act → World → Prop} {Q : Exit → Act → World → Prop} {E : Prop} (hgd : o.guard = none) (s x : Operand) (t : TypeId)
    (ho : o.op = .call { callee := .builtin .append, args := #[s, x], argTypes := #[t, t] })
    (base : Nat) (e : TypeId) (i : TypeInfo) (z : Value) (size bytes : Nat) (ht : P.underlying t = some (.slice e)) (hi : P.info? e = some i) (hz : i.zero = some z)
    (hsize : i.size = size) (hby : i.bytes = bytes) (hzs : z.cells.size = size) (hsz : 0 < size)
    (g n cap : Nat) (xs : List Value) (hs : a.eval s = .slice (some ⟨g, 0, none⟩) n cap) (hown : w.ownsRow base e size (.slice (some ⟨g, 0, none⟩) n cap) n xs)
    (ad : Addr) (m c : Nat) (news : List Value) (hx : a.eval x = .slice (some ad) m c) (hl : news.length = m * size) (hnews : ∀ j u, news[j]? = some u → w.cell? (ad.add j) = some u) (h1 : ∀ u ∈ news, u.oneCell' = true)
    (h63 : n + m ≤ maxLen) (hbytes : (n + m) * bytes ≤ 140737488355328) (hbase : base ≤ w.heap.size)
    (h : ∀ g' cap' w', w'.ownsRow base e size (.slice (some ⟨g', 0, none⟩) (n + m) cap') (n + m) (xs ++ news) → w.grownBy w' (some g) → (g' = g ∨ g' = w.heap.size) → K (a.put o.dst (.slice (some ⟨g', 0, none⟩) (n + m) cap')) w') :
    if Region.wanted o (yielded ops a.tmps) = true then Oper.wp P o a w K Q else E := by
  have hw : Region.wanted o (yielded ops a.tmps) = true := by simp [Region.wanted, hgd]
  rw [if_pos hw]
  obtain ⟨v', w', hr, h2, h3, h4, h5⟩ := run_append_own_at (P := P) w base t o.type e i z size bytes ht hi hz hsize hby hzs hsz _ n xs hown ad m c news hl hnews h1 h63 hbytes hbase
  have hn : v' ≠ .slice none 0 0 := fun e => by have := (h4.1 e).1; cases this
  rcases h2.2 with ⟨e, _⟩ | ⟨g', cap', cur, e, hr2⟩
  · exact absurd e hn
  subst e
  have hg : g' = g ∨ g' = w.heap.size := by
    rcases h5 with h5 | h5
    · left; simpa [Value.ownBlock] using h5
    · right; simpa [Value.ownBlock] using h5
  unfold Oper.wp execOp
  simp only [ho, resolve, invoke, builtin, Sem.run_bind, Sem.run_pure, Result.andThen_ok, List.map_toArray, List.map_cons, List.map_nil, hs, hx, hr]
  exact h g' cap' w' h2 h3 hg

/-- 'copy(d, s)' into a row of the call's own, from a place in it on. -/
theorem step_copy_blk {ops : Array Oper} {o : Oper} {a : Act} {K : Act → World → Prop} {Q : Exit → Act → World → Prop} {E : Prop} (hgd : o.guard = none) (d s : Operand) (dT sT : TypeId)
    (ho : o.op = .call { callee := .builtin .copy, args := #[d, s], argTypes := #[dT, sT] }) (elem : TypeId) (hu : P.underlying dT = some (.slice elem)) (hsz : (P.info? elem).map (·.size) = some 1)
    (g off dLen dCap : Nat) (ad : Addr) (sLen sCap : Nat) (hd : a.eval d = .slice (some ⟨g, off, none⟩) dLen dCap) (hs : a.eval s = .slice (some ad) sLen sCap)
    (cur : List Value) (t : TypeId) (hg : Blk w g cur t) (cs : List Value) (hn : cs.length = Nat.min sLen dLen)
    (hsrc : ∀ j v, cs[j]? = some v → w.cell? (ad.add j) = some v) (hfit : off + cs.length ≤ cur.length) (h1 : ∀ v ∈ cs, v.oneCell' = true)
    (h : ∀ w', Blk w' g (cur.take off ++ (cs ++ cur.drop (off + cs.length))) t → Kp [g] w w' → w'.heap.size = w.heap.size → K (a.put o.dst (goInt cs.length)) w') :
    if Region.wanted o (yielded ops a.tmps) = true then Oper.wp P o a w K Q else E := by
  have hw : Region.wanted o (yielded ops a.tmps) = true := by simp [Region.wanted, hgd]
  rw [if_pos hw]
  have hrun := run_copy_row (P := P) w dT sT o.type elem g off dLen dCap ad sLen sCap cur.toArray t cs hu hsz hg hn hsrc (by simpa using hfit) h1
  unfold Oper.wp
  simp [execOp, ho, resolve, invoke, builtin, hd, hs, hrun, Result.andThen]
  refine h _ ?_ ((Kp.refl _ _).setRow (.inl (by simp)) _) (by simp)
  have := hg.setRow (cur.take off ++ (cs ++ cur.drop (off + cs.length))).toArray
  simpa using this
end
end Go.Proofs.Qxb6601367a
