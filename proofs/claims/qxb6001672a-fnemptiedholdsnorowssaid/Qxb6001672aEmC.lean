/-
  Emptied: ZZEmptied (36), ZZRowsLens (57), noRows (37), ZZFoundOf (34), containsInt (35), zzBytes (32).
-/
import Derived.Test.Qxb6001672aEmB
set_option linter.unusedSimpArgs false
set_option linter.unusedVariables false
namespace Go.Proofs.Qxb6001672a
open Go.RowKit

/-- A batch of rows that may be emptied. -/
structure RO (w : World) (B U rB g nf nw nt nr cw ct cr cf : Nat) (x0 : Value) (pw pt pr pf : Option Addr) : Prop where
  hR : Blk w rB [x0, .slice pw nw cw, .slice pt nt ct, .slice pr nr cr, .slice pf nf cf] 67
  hB : B ≤ U
  hU : U ≤ w.heap.size
  m1 : Rm w 53 pw cw
  m2 : Rm w 48 pt ct
  m3 : Rm w 9 pr cr
  q1 : ∀ a, pw = some a → B ≤ a.block ∧ a.block < U ∧ a.block ≠ rB
  q2 : ∀ a, pt = some a → B ≤ a.block ∧ a.block < U ∧ a.block ≠ rB
  q3 : ∀ a, pr = some a → B ≤ a.block ∧ a.block < U ∧ a.block ≠ rB
  z1 : pw = none → cw = 0
  z2 : pt = none → ct = 0
  z3 : pr = none → cr = 0
  l1 : nw ≤ cw
  l2 : nt ≤ ct
  l3 : nr ≤ cr
  l4 : nf ≤ cf
  s1 : cw ≤ 1048576
  s2 : ct ≤ 1048576
  s3 : cr ≤ 1048576
  s4 : nf ≤ 1024
  zf : pf = none → cf = 0
  hf : 0 < nf → pf = some ⟨g, 0, none⟩ ∧ B ≤ g ∧ g < U ∧ g ≠ rB ∧ ∃ ys, Blk w g ys 102 ∧ nf * 5 ≤ ys.length ∧ ∀ i, i < nf → Col ys w B U rB g i

section
variable {w w' : World} {B U rB g nf nw nt nr cw ct cr cf : Nat} {x0 : Value} {pw pt pr pf : Option Addr}
theorem RO.keep (h : RO w B U rB g nf nw nt nr cw ct cr cf x0 pw pt pr pf) (k : Kp [] w w') : RO w' B U rB g nf nw nt nr cw ct cr cf x0 pw pt pr pf :=
  ⟨k.blk h.hR (by simp), h.hB, Nat.le_trans h.hU k.size, h.m1.shp (Shp.keep k), h.m2.shp (Shp.keep k), h.m3.shp (Shp.keep k), h.q1, h.q2, h.q3, h.z1, h.z2, h.z3, h.l1, h.l2, h.l3, h.l4, h.s1, h.s2, h.s3, h.s4, h.zf, fun h0 => by
    obtain ⟨a, b, c, d, ys, e1, e2, e3⟩ := h.hf h0
    exact ⟨a, b, c, d, ys, k.blk e1 (by simp), e2, fun i hi => (e3 i hi).shp (Shp.keep k)⟩⟩
theorem RO.em (h : RO w B U rB g nf nw nt nr cw ct cr cf x0 pw pt pr pf) : Calls Try.prog 56 #[.pointer (some ⟨rB, 0, none⟩)] w (EmO w B U pw pt pr pf cw ct cr cf) :=
  em56 B U rB g nf nw nt nr cw ct cr cf x0 pw pt pr pf w h.hR h.hB h.hU h.m1 h.m2 h.m3 h.q1 h.q2 h.q3 h.z1 h.z2 h.z3 h.l1 h.l2 h.l3 h.l4 h.s1 h.s2 h.s3 h.s4 h.zf h.hf

set_option maxRecDepth 100000 in
set_option maxHeartbeats 1000000 in
theorem em36 (h : RO w B U rB g nf nw nt nr cw ct cr cf x0 pw pt pr pf) : Calls Try.prog 36 #[.pointer (some ⟨rB, 0, none⟩)] w (EmO w B U pw pt pr pf cw ct cr cf) := by
  obtain ⟨w1, hw1⟩ : ∃ w1, w1 = w.alloc (.cells #[.pointer none, .slice none 0 0, .slice none 0 0, .slice none 0 0, .slice none 0 0] 67) := ⟨_, rfl⟩
  have k1 : Kp [] w w1 := by rw [hw1]; exact (Kp.refl _ _).alloc _
  have hz1 : w1.heap.size = w.heap.size + 1 := by rw [hw1]; simp
  have z : Blk w1 w.heap.size [.pointer none, .slice none 0 0, .slice none 0 0, .slice none 0 0, .slice none 0 0] 67 := by rw [hw1]; exact Blk.new w _ _
  have C := hide (h.keep k1).em
  have hU := h.hU
  have hB := h.hB
  have HW := hide hw1
  have HZ := hide hz1
  have ZZ := hide z
  have K1 := hide k1
  clear h hw1 hz1 z k1
  go_enter Try.func36, Try.ntmps36
  go_wp2_with fail
  rw [← unhide HW]
  refine (unhide C).mono ?_
  clear C
  rintro e u ⟨p1, p2, p3, q1, q2, q3, rfl, o1, o2, o3, m1, m2, m3, bel, hi⟩
  have zb : Blk u w.heap.size [.pointer none, .slice none 0 0, .slice none 0 0, .slice none 0 0, .slice none 0 0] 67 := by
    have := unhide ZZ
    unfold Blk at this ⊢
    rw [hi w.heap.size hU (by have := unhide HZ; omega)]
    exact this
  have z0 : u.cell? ⟨w.heap.size, 0, none⟩ = some (.pointer none) := zb.cell rfl
  have z1 : u.cell? ⟨w.heap.size, 1, none⟩ = some (.slice none 0 0) := zb.cell rfl
  have z2 : u.cell? ⟨w.heap.size, 2, none⟩ = some (.slice none 0 0) := zb.cell rfl
  have z3 : u.cell? ⟨w.heap.size, 3, none⟩ = some (.slice none 0 0) := zb.cell rfl
  have z4 : u.cell? ⟨w.heap.size, 4, none⟩ = some (.slice none 0 0) := zb.cell rfl
  have f0 := zb.frozen 0
  have f1 := zb.frozen 1
  have f2 := zb.frozen 2
  have f3 := zb.frozen 3
  have f4 := zb.frozen 4
  have b0 := zb.set 0 (.pointer none)
  have b1 := b0.set 1 (.slice p1 0 q1)
  have b2 := b1.set 2 (.slice p2 0 q2)
  have b3 := b2.set 3 (.slice p3 0 q3)
  have b4 := b3.set 4 (.slice pf 0 cf)
  have sh := ((((shp_set zb 0 (.pointer none)).trans (shp_set b0 1 (.slice p1 0 q1))).trans (shp_set b1 2 (.slice p2 0 q2))).trans (shp_set b2 3 (.slice p3 0 q3))).trans (shp_set b3 4 (.slice pf 0 cf))
  have kk : Kp [w.heap.size] u (((((u.setCell ⟨w.heap.size, 0, none⟩ (.pointer none)).setCell ⟨w.heap.size, 1, none⟩ (.slice p1 0 q1)).setCell ⟨w.heap.size, 2, none⟩ (.slice p2 0 q2)).setCell ⟨w.heap.size, 3, none⟩ (.slice p3 0 q3)).setCell ⟨w.heap.size, 4, none⟩ (.slice pf 0 cf)) :=
    (((((Kp.refl [w.heap.size] u).setCell (p := ⟨w.heap.size, 0, none⟩) (.inl (by simp)) _).setCell (p := ⟨w.heap.size, 1, none⟩) (.inl (by simp)) _).setCell (p := ⟨w.heap.size, 2, none⟩) (.inl (by simp)) _).setCell (p := ⟨w.heap.size, 3, none⟩) (.inl (by simp)) _).setCell (p := ⟨w.heap.size, 4, none⟩) (.inl (by simp)) _
  have hus := zb.lt
  have FIN : Hid (EmO w B U pw pt pr pf cw ct cr cf (.returned (.agg #[.pointer none, .slice p1 0 q1, .slice p2 0 q2, .slice p3 0 q3, .slice pf 0 cf])) (((((u.setCell ⟨w.heap.size, 0, none⟩ (.pointer none)).setCell ⟨w.heap.size, 1, none⟩ (.slice p1 0 q1)).setCell ⟨w.heap.size, 2, none⟩ (.slice p2 0 q2)).setCell ⟨w.heap.size, 3, none⟩ (.slice p3 0 q3)).setCell ⟨w.heap.size, 4, none⟩ (.slice pf 0 cf))) := by
    have kw := unhide K1
    have hz := unhide HZ
    refine ⟨p1, p2, p3, q1, q2, q3, rfl, o1, o2, o3, m1.shp sh, m2.shp sh, m3.shp sh, ?_, fun k k1 k2 => ?_⟩
    · refine ((⟨kw.os, kw.tape, kw.output, kw.size, fun i hi => kw.block i (by omega) (by simp)⟩ : Below B w w1).trans bel).trans ⟨kk.os, kk.tape, kk.output, kk.size, fun i hi => kk.block i (by omega) (by simp; omega)⟩
    · exact ((kk.block k (by omega) (by simp; omega)).trans (hi k k1 (by omega))).trans (kw.block k k2 (by simp))
  clear o1 o2 o3 m1 m2 m3 bel hi sh kk b0 b1 b2 b3 b4
  simp only []
  go_wp2
  refine bodyPost_ret (v := .agg #[.pointer none, .slice p1 0 q1, .slice p2 0 q2, .slice p3 0 q3, .slice pf 0 cf]) (by simp [results, Try.results36, go_sem, *]) rfl ?_
  exact unhide FIN
end

/-- A batch with no rows. -/
def NoR (w : World) (e : Ending) (w' : World) : Prop := e = .returned (.bool true) ∧ Kp [] w w'
def Len0 (w : World) (e : Ending) (w' : World) : Prop := e = .returned (.tuple #[.int .i64 0, .int .i64 0, .int .i64 0, .int .i64 0]) ∧ Kp [] w w'

set_option maxRecDepth 100000 in
theorem lens57 (rB : Nat) (x0 : Value) (p1 p2 p3 p4 : Option Addr) (c1 c2 c3 c4 : Nat) (w : World) (h : Blk w rB [x0, .slice p1 0 c1, .slice p2 0 c2, .slice p3 0 c3, .slice p4 0 c4] 67) :
    Calls Try.prog 57 #[.pointer (some ⟨rB, 0, none⟩)] w (Len0 w) := by
  have a1 : w.cell? ⟨rB, 1, none⟩ = some (.slice p1 0 c1) := h.cell rfl
  have a2 : w.cell? ⟨rB, 2, none⟩ = some (.slice p2 0 c2) := h.cell rfl
  have a3 : w.cell? ⟨rB, 3, none⟩ = some (.slice p3 0 c3) := h.cell rfl
  have a4 : w.cell? ⟨rB, 4, none⟩ = some (.slice p4 0 c4) := h.cell rfl
  clear h
  go_enter Try.func57, Try.ntmps57
  go_wp2
  go_quiet (fail)
  go_wp2
  refine bodyPost_ret (v := .tuple #[.int .i64 0, .int .i64 0, .int .i64 0, .int .i64 0]) (by simp [results, Try.results57, go_sem]) rfl ?_
  exact ⟨rfl, (Kp.refl _ _).drewN _⟩

set_option maxRecDepth 100000 in
theorem noR37 (rB : Nat) (x0 : Value) (p1 p2 p3 p4 : Option Addr) (c1 c2 c3 c4 : Nat) (w : World) (h : Blk w rB [x0, .slice p1 0 c1, .slice p2 0 c2, .slice p3 0 c3, .slice p4 0 c4] 67) :
    Calls Try.prog 37 #[.pointer (some ⟨rB, 0, none⟩)] w (NoR w) := by
  have C := hide (lens57 rB x0 p1 p2 p3 p4 c1 c2 c3 c4 w h)
  clear h
  go_enter Try.func37, Try.ntmps37
  go_wp2_with fail
  refine (unhide C).mono ?_
  rintro e u ⟨rfl, k⟩
  have K := hide k
  clear k
  simp only []
  go_wp2
  go_ret
  exact ⟨rfl, unhide K⟩

set_option maxRecDepth 100000 in
theorem foundOf34 (rB fB fcap : Nat) (fp : Option Addr) (c : Int) (cols : List Int) (w : World) (hn : cols.length ≤ 1048576)
    (hR : w.cell? ⟨rB, 4, none⟩ = some (.slice fp cols.length fcap)) (hF : ∀ i x, cols[i]? = some x → fp = some ⟨fB, 0, none⟩ ∧ w.cell? ⟨fB, i * 5, none⟩ = some (.int .i64 x)) :
    Calls Try.prog 34 #[.pointer (some ⟨rB, 0, none⟩), .int .i64 c] w (Found w fB c cols) := by
  have C := hide (foundOf55 rB fB fcap fp c cols w hn hR hF)
  clear hR hF
  go_enter Try.func34, Try.ntmps34
  go_wp2_with fail
  refine (unhide C).mono ?_
  rintro e u ⟨hu, rfl⟩
  have hu := hu.symm
  subst hu
  simp only []
  go_wp2
  go_ret
  exact ⟨rfl, rfl⟩

def Has (w : World) (xs : List Int) (c : Int) (e : Ending) (w' : World) : Prop := w' = w ∧ e = .returned (.bool (xs.contains c))
set_option maxRecDepth 100000 in
theorem contains35 (p : Option Addr) (n c : Nat) (xs : List Int) (x : Int) (w : World) (hn : n ≤ 1048576) (hl : xs.length = n) (hp : Src w p (xs.map (Value.int .i64))) :
    Calls Try.prog 35 #[.slice p n c, .int .i64 x] w (Has w xs x) := by
  have HP := hide hp
  have HL := hide hl
  clear hp hl
  go_enter Try.func35, Try.ntmps35
  go_wp2
  go_loop [5] (fun i => ∃ k : Nat, k ≤ n ∧ i = .int .i64 k ∧ ∀ j, j < k → xs[j]? ≠ some x) (fun i => n - (intOf i).toNat)
  case atStart => exact ⟨0, Nat.zero_le _, rfl, fun j h => by omega⟩
  case round =>
    obtain ⟨k, hk, rfl, hno⟩ := hrel
    have HN := hide hno
    clear hno
    by_cases hlt : k < n
    · obtain ⟨y, hy⟩ := getElem?_lt_some xs k (by have := unhide HL; omega)
      obtain ⟨b, o, rfl, _, hc⟩ := (unhide HP) (by simp [unhide HL]; omega)
      have c1 : w.cell? ⟨b, o + k, none⟩ = some (.int .i64 y) := hc _ _ (by simp [hy])
      have i1 : (k : Int) < (n : Int) := by omega
      have HY := hide hy
      clear hc hy
      by_cases hyx : y = x
      · subst hyx
        go_wp2
        go_ret
        refine ⟨rfl, ?_⟩
        have : xs.contains y = true := by simpa using List.mem_of_getElem? (unhide HY)
        rw [this]
        rfl
      · have hb : (y == x) = false := by simp [hyx]
        go_wp2
        go_round
        case rel =>
          refine ⟨k + 1, by omega, by go_num, fun j hj => ?_⟩
          by_cases hjk : j = k
          · subst hjk; rw [unhide HY]; intro h; exact hyx (Option.some.inj h)
          · exact (unhide HN) j (by omega)
        case measure => simp [intOf]; omega
    · go_wp2
      go_ret
      refine ⟨rfl, ?_⟩
      have : xs.contains x = false := by
        cases h : xs.contains x with
        | false => rfl
        | true =>
          have hm : x ∈ xs := by simpa using h
          obtain ⟨j, hj, e⟩ := List.getElem_of_mem hm
          exact absurd (by rw [List.getElem?_eq_getElem hj, e]) ((unhide HN) j (by have := unhide HL; omega))
      rw [this]
      rfl

set_option maxRecDepth 100000 in
theorem zzB32 (a b d : Int) (p : Option Addr) (n c : Nat) (w : World) : Calls Try.prog 32 #[.int .i64 a, .int .i64 b, .slice p n c, .int .i64 d] w (SomeBool w) := by
  by_cases h1 : n ≤ 1048576
  case neg => go_enter Try.func32, Try.ntmps32; go_wp2; go_ret; exact ⟨rfl, _, rfl⟩
  go_enter Try.func32, Try.ntmps32; go_wp2; go_ret; exact ⟨rfl, _, rfl⟩
end Go.Proofs.Qxb6001672a
