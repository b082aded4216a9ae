/-
  ZZRingWrite (24), concat (16), eqBytes (14).
-/
import Derived.Test.Qxb6601367aRingS
set_option linter.unusedSimpArgs false
set_option linter.unusedVariables false
namespace Go.Proofs.Qxb6601367a
open Go.RowKit

set_option maxRecDepth 100000 in
theorem write24 (r p : Value) (w : World) (Q : Ending → World → Prop) (hQ : ∀ e w', Q e w' → e = .returned (.tuple #[])) (h : Calls Try.prog 32 #[r, p] w Q) : Calls Try.prog 24 #[r, p] w Q := by
  have H := hide h
  clear h
  go_enter Try.func24, Try.ntmps24
  go_wp2_with fail
  refine (unhide H).mono ?_
  intro e w' hq
  have := hQ e w' hq
  subst this
  simp only []
  go_wp2
  go_end0
  exact hq

/-- 'append(s, x...)' of a row of the call's own that is not nil, x nil or not, at a plain region. -/
theorem wpList_append_src {P : Program} {w : World} {ops : Array Oper} {rest : List Oper} {o : Oper} {a : Act} {Q : Exit → Act → World → Prop} (hgd : o.guard = none) (s x : Operand) (t : TypeId)
    (ho : o.op = .call { callee := .builtin .append, args := #[s, x], argTypes := #[t, t] })
    (base : Nat) (e : TypeId) (i : TypeInfo) (z : Value) (bytes : Nat) (ht : P.underlying t = some (.slice e)) (hi : P.info? e = some i) (hz : i.zero = some z)
    (hsize : i.size = 1) (hby : i.bytes = bytes) (hzs : z.cells.size = 1)
    (v : Value) (n : Nat) (xs : List Value) (hs : a.eval s = v) (hvn : v ≠ .slice none 0 0) (hown : w.ownsRow base e 1 v n xs)
    (p : Option Addr) (m c : Nat) (news : List Value) (hx : a.eval x = .slice p m c) (hl : news.length = m) (hnews : Src w p news) (hp0 : p = none → m = 0 ∧ c = 0) (h1 : ∀ u ∈ news, u.oneCell' = true)
    (h63 : n + m ≤ maxLen) (hbytes : (n + m) * bytes ≤ 140737488355328) (hbase : base ≤ w.heap.size)
    (h : ∀ v' w', w'.ownsRow base e 1 v' (n + m) (xs ++ news) → Kp v.ownBlock.toList w w' → v' ≠ .slice none 0 0 → wpList P ops Q rest (a.put o.dst v') w') : wpList P ops Q (o :: rest) a w := by
  cases p with
  | none =>
    obtain ⟨rfl, rfl⟩ := hp0 rfl
    have hn : news = [] := List.eq_nil_of_length_eq_zero hl
    subst hn
    refine wpList_append_own_none hgd s x t ho base e i 1 ht hi v n xs hs hown hx ?_
    exact h v w (by simpa using hown) (Kp.refl _ _) hvn
  | some ad =>
    refine wpList_append_own w hgd s x t ho base e i z 1 bytes ht hi hz hsize hby hzs (by omega) v n xs hs hown ad m c news hx (by omega) ?_ h1 h63 hbytes hbase ?_
    · intro j u hu
      have h0 : 0 < news.length := by
        have := (List.getElem?_eq_some_iff.1 hu).1
        omega
      obtain ⟨b, off, e', _, hc⟩ := hnews h0
      cases e'
      rw [Addr.add_lit]
      exact hc j u hu
    · intro v' w' ho' hg' hnn
      exact h v' w' ho' (Kp.of_grown hg') (fun e' => hvn (hnn.1 e').1)

/-- What concat hands back. -/
def CC (w : World) (base n : Nat) (xs : List Value) (e : Ending) (w' : World) : Prop :=
  ∃ v, e = .returned v ∧ w'.ownsRow base 5 1 v n xs ∧ v ≠ .slice none 0 0 ∧ (∀ g, v.ownBlock = some g → w.heap.size ≤ g) ∧ Kp [] w w'

set_option maxRecDepth 100000 in
set_option maxHeartbeats 400000 in
theorem concat16 (p q : Option Addr) (m l cp cq base : Nat) (xs ys : List Value) (w : World) (hm : m + l ≤ 1048576) (hx : xs.length = m) (hy : ys.length = l) (hp : Src w p xs) (hq : Src w q ys)
    (hp0 : p = none → m = 0 ∧ cp = 0) (hq0 : q = none → l = 0 ∧ cq = 0) (hb : base = w.heap.size) (h1 : ∀ v ∈ xs, v.oneCell' = true) (h2 : ∀ v ∈ ys, v.oneCell' = true) :
    Calls Try.prog 16 #[.slice p m cp, .slice q l cq] w (CC w base (m + l) (xs ++ ys)) := by
  obtain ⟨i0, hi0, hz0⟩ : ∃ i, Try.prog.info? 5 = some i ∧ (i.zero, i.size, i.bytes) = (some (.int .u8 0), 1, 1) := by
    have := info5
    cases h : Try.prog.info? 5 with
    | none => rw [h] at this; cases this
    | some i => rw [h] at this; exact ⟨i, rfl, by simpa using this⟩
  have hz1 : i0.zero = some (.int .u8 0) := congrArg (·.1) hz0
  have hz2 : i0.size = 1 := congrArg (·.2.1) hz0
  have hz3 : i0.bytes = 1 := congrArg (·.2.2) hz0
  have hmk : ∀ w, (Instr.makeSlice 23 (.int .i64 0) (.int .i64 ((m : Int) + (l : Int)))).run Try.prog w = .ok (.slice (some ⟨w.heap.size, 0, none⟩) 0 (m + l)) (w.alloc (.cells (madeCells #[.int .u8 0] (m + l)) 5)) := fun w => by
    have := run_make (P := Try.prog) w 23 5 i0 (.int .u8 0) Try.underlying23 hi0 hz1 .i64 .i64 0 ((m : Int) + (l : Int)) (by omega) (by omega) (by rw [hz3]; omega) (by omega)
    rw [hz2, show ((m : Int) + (l : Int)).toNat = m + l by omega] at this
    simpa [Value.cells] using this
  have o := World.ownsRow_made (base := base) (e := 5) (size := 1) w (madeCells #[.int .u8 0] (m + l)) (m + l) (by omega) (by simp only [maxLen]; omega) (by simp [madeCells])
  have k1 : Kp [] w (w.alloc (.cells (madeCells #[.int .u8 0] (m + l)) 5)) := (Kp.refl _ _).alloc _
  have hsz : (w.alloc (.cells (madeCells #[.int .u8 0] (m + l)) 5)).heap.size = w.heap.size + 1 := by simp
  have O := hide o
  have P1 := hide (hp.kp k1 (by simp))
  have K1 := hide k1
  have HQ := hide hq
  have HP0 := hide hp0
  have HQ0 := hide hq0
  have H1 := hide h1
  have H2 := hide h2
  clear o hp k1 hq hp0 hq0 h1 h2
  go_enter Try.func16, Try.ntmps16
  go_wp2_with (first
    | (refine wpList_append_src rfl (.tmp 12) (.tmp 13) 23 rfl base 5 i0 (.int .u8 0) 1 Try.underlying23 hi0 hz1 hz2 hz3 rfl (.slice (some ⟨w.heap.size, 0, none⟩) 0 (m + l)) 0 [] rfl (by simp) (unhide O) p m cp xs rfl hx (unhide P1) (unhide HP0) (unhide H1) (by simp only [maxLen]; omega) (by omega) (by rw [hsz]; omega) ?_; intro v1 w1 o1 kk1 n1)
    | (refine wpList_append_src rfl (.tmp 15) (.tmp 16) 23 rfl base 5 i0 (.int .u8 0) 1 Try.underlying23 hi0 hz1 hz2 hz3 rfl v1 _ _ rfl n1 o1 q l cq ys rfl hy ?cS (unhide HQ0) (unhide H2) (by simp only [maxLen]; omega) (by omega) ?cB ?_; rotate_left 2; intro v2 w2 o2 kk2 n2))
  · have kA : Kp [] w w1 := (unhide K1).then kk1 (fun i hi => by simp [Value.ownBlock] at hi; right; omega)
    have kB : Kp [] w w2 := kA.then kk2 (fun i hi => by right; have := (o1.lt i (by simpa using hi)).1; omega)
    go_ret
    exact ⟨v2, rfl, by simpa using o2, n2, fun g hg => by have := (o2.lt g hg).1; omega, kB⟩
  · have kA : Kp [] w w1 := (unhide K1).then kk1 (fun i hi => by simp [Value.ownBlock] at hi; right; omega)
    exact (unhide HQ).kp kA (by simp)
  · have kA : Kp [] w w1 := (unhide K1).then kk1 (fun i hi => by simp [Value.ownBlock] at hi; right; omega)
    have := kA.size
    omega

def EqOut (w : World) (e : Ending) (w' : World) : Prop := e = .returned (.bool true) ∧ Kp [] w w'

set_option maxRecDepth 100000 in
set_option maxHeartbeats 400000 in
theorem eq14 (p q : Option Addr) (n cp cq : Nat) (xs : List Int) (w : World) (hn : n ≤ 1048576) (hl : xs.length = n) (hp : Src w p (xs.map (Value.int .u8))) (hq : Src w q (xs.map (Value.int .u8))) :
    Calls Try.prog 14 #[.slice p n cp, .slice q n cq] w (EqOut w) := by
  have HP := hide hp
  have HQ := hide hq
  clear hp hq
  go_enter Try.func14, Try.ntmps14
  go_wp2
  go_loopw [5] (fun i wr => ∃ k : Nat, k ≤ n ∧ i = .int .i64 k ∧ Kp [] w wr) (fun i _ => n - (intOf i).toNat)
  case atStart => exact ⟨0, Nat.zero_le _, rfl, Kp.refl _ _⟩
  case round =>
    obtain ⟨k, hk, rfl, hKr⟩ := hrel
    by_cases hlt : k < n
    · obtain ⟨x, hx⟩ := getElem?_lt_some xs k (by omega)
      obtain ⟨b1, o1, e1, _, hc1⟩ := ((unhide HP).keep hKr) (by simp [hl]; omega)
      obtain ⟨b2, o2, e2, _, hc2⟩ := ((unhide HQ).keep hKr) (by simp [hl]; omega)
      subst e1 e2
      have c1 : wr.cell? ⟨b1, o1 + k, none⟩ = some (.int .u8 x) := hc1 _ _ (by simp [hx])
      have c2 : wr.cell? ⟨b2, o2 + k, none⟩ = some (.int .u8 x) := hc2 _ _ (by simp [hx])
      have i1 : (k : Int) < (n : Int) := by omega
      have HK := hide hKr
      clear hKr hc1 hc2 hx
      go_wp2
      go_quiet (fail)
      go_wp2
      go_roundw
      case rel => exact ⟨k + 1, by omega, by go_num, (unhide HK).drewN _⟩
      case measure => simp [intOf]; omega
    · go_wp2
      go_ret
      exact ⟨rfl, hKr⟩
end Go.Proofs.Qxb6601367a
