/-
  (*ring).write (32).
-/
import Derived.Test.Qxb6601367aRing
set_option linter.unusedSimpArgs false
set_option linter.unusedVariables false
namespace Go.Proofs.Qxb6601367a
open Go.RowKit

theorem info5s : (Try.prog.info? 5).map (·.size) = some 1 := by kernel_rfl
theorem info5 : (Try.prog.info? 5).map (fun i => (i.zero, i.size, i.bytes)) = some (some (.int .u8 0), 1, 1) := by kernel_rfl

/-- What a write leaves. -/
def ROut (w : World) (base rB size : Nat) (bs : List Int) (nx : Nat) (wt : Int) (ps : List Int) (v : Value) (e : Ending) (w' : World) : Prop :=
  e = .returned (.tuple #[]) ∧ ∃ v', Blk w' rB [.int .i64 size, v', .int .i64 (W size bs nx ps).2, .int .i64 (wrap64 (wt + ps.length))] 50 ∧
    w'.ownsRow base 5 1 v' (W size bs nx ps).1.length ((W size bs nx ps).1.map (Value.int .u8)) ∧ (v' = .slice none 0 0 ↔ v = .slice none 0 0 ∧ ps = []) ∧ v'.ownBlock ≠ some rB ∧
    (∀ g, v'.ownBlock = some g → v.ownBlock = some g ∨ w.heap.size ≤ g) ∧ Kp (rB :: v.ownBlock.toList) w w'

def slen : Value → Nat
  | .slice _ l _ => l
  | _ => 0

theorem splice (cur B cs : List Value) (X N : Nat) (hB : cur.take N = B) (hX : X + cs.length ≤ N) (hN : N ≤ cur.length) :
    (cur.take X ++ (cs ++ cur.drop (X + cs.length))).take N = B.take X ++ cs ++ B.drop (X + cs.length) := by
  subst hB
  have h1 : (cur.take X).length = X := by simp; omega
  rw [List.take_append, List.take_append, h1, List.take_of_length_le (l := cur.take X) (by omega), List.take_of_length_le (l := cs) (by omega), List.take_take, Nat.min_eq_left (by omega), List.drop_take, List.append_assoc]
  congr 3
  omega

set_option maxRecDepth 1000000 in
set_option maxHeartbeats 2000000 in
theorem writeC (rB size m cp pb po g n cap nx base : Nat) (wt : Int) (bs ps : List Int) (v0 : Value) (w0 u : World) (F : Nat) (u2 u3 u5 u6 u7 u8 u9 u10 u11 u12 u13 u14 u15 u16 u17 u18 u19 u20 u21 u22 u23 u24 u25 u26 u27 u28 u29 u30 u31 u32 u33 u34 u35 u36 u37 u38 u39 u40 u41 u42 u43 u44 u45 u46 u47 u48 u49 u50 u51 u52 u53 u54 u55 u56 u57 u58 u59 u60 u61 u62 u63 u64 u65 u66 u67 u68 u69 u70 u71 u72 u73 u74 u75 u76 u77 u78 u79 u80 u81 u82 u83 u84 u85 u86 u87 u88 : Value)
    (hR : Blk u rB [.int .i64 size, .slice (some ⟨g, 0, none⟩) n cap, .int .i64 nx, .int .i64 (wrap64 (wt + m))] 50) (hn : bs.length = n)
    (hv : u.ownsRow base 5 1 (.slice (some ⟨g, 0, none⟩) n cap) n (bs.map (Value.int .u8))) (hgr : g ≠ rB) (hb : base ≤ u.heap.size)
    (hp : ∀ i x, ps[i]? = some x → u.cell? ⟨pb, po + i, none⟩ = some (.int .u8 x)) (lp : ps.length = m) (hpu : pb < u.heap.size) (p1 : pb ≠ rB) (p2 : pb ≠ g)
    (s1 : 1 ≤ size) (s2 : size ≤ 65536) (hl : n ≤ size) (hnx : nx < size) (h0 : n < size → nx = 0) (m0 : 0 < m) (hm : m ≤ 1048576) (hcp : m ≤ cp)
    (K0 : Kp (rB :: v0.ownBlock.toList) w0 u) (hg0 : v0.ownBlock = some g ∨ w0.heap.size ≤ g) (hrw : rB < w0.heap.size)
    (hF1 : F ≤ m) (hF2 : n + F ≤ size) (hF3 : F < m → n + F = size)
    (K : Act → World → Prop) (hK : ∀ a w', Code.wp Try.prog (restOf2 5 Try.f32) (bodyPost Try.prog Try.f32 (ROut w0 base rB size bs nx wt ps v0)) a w' → K a w') :
    Code.wp Try.prog (headOf2 5 Try.f32) (Exit.then K (bodyPost Try.prog Try.f32 (ROut w0 base rB size bs nx wt ps v0))) ⟨#[.pointer (some ⟨rB, 0, none⟩), .slice (some ⟨pb, po, none⟩) m cp, u2, u3, .int .i64 F, u5, u6, u7, u8, u9, u10, u11, u12, u13, u14, u15, u16, u17, u18, u19, u20, u21, u22, u23, u24, u25, u26, u27, u28, u29, u30, u31, u32, u33, u34, u35, u36, u37, u38, u39, u40, u41, u42, u43, u44, u45, u46, u47, u48, u49, u50, u51, u52, u53, u54, u55, u56, u57, u58, u59, u60, u61, u62, u63, u64, u65, u66, u67, u68, u69, u70, u71, u72, u73, u74, u75, u76, u77, u78, u79, u80, u81, u82, u83, u84, u85, u86, u87, u88], []⟩ u := by
  conv at hK => enter [a, w', 1, 2]; whnf
  conv => arg 2; whnf
  have c1 : u.cell? ⟨rB, 1, none⟩ = some (.slice (some ⟨g, 0, none⟩) n cap) := hR.cell rfl
  obtain ⟨i0, hi0, hz0⟩ : ∃ i, Try.prog.info? 5 = some i ∧ (i.zero, i.size, i.bytes) = (some (.int .u8 0), 1, 1) := by
    have := info5
    cases h : Try.prog.info? 5 with
    | none => rw [h] at this; cases this
    | some i => rw [h] at this; exact ⟨i, rfl, by simpa using this⟩
  have hz1 : i0.zero = some (.int .u8 0) := congrArg (·.1) hz0
  have hz2 : i0.size = 1 := congrArg (·.2.1) hz0
  have hz3 : i0.bytes = 1 := congrArg (·.2.2) hz0
  have f1 := hR.frozen 1
  have hru : rB < u.heap.size := hR.lt
  have HR := hide hR
  have HP := hide hp
  have HK0 := hide K0
  have HV : Hid (u.drew.ownsRow base 5 1 (.slice (some ⟨g, 0, none⟩) n cap) n (bs.map (Value.int .u8))) := hv
  have s3 : Hid (((ps.take F).map (Value.int .u8)).length = F * 1) := by show _ = _; simp; omega
  have s4 : Hid (∀ j v, ((ps.take F).map (Value.int .u8))[j]? = some v → u.drew.cell? ((⟨pb, po, none⟩ : Addr).add j) = some v) := fun j v hv => by
    rw [Addr.add_lit]
    rw [List.getElem?_map, List.getElem?_take] at hv
    split at hv
    · cases h : ps[j]? with
      | none => rw [h] at hv; cases hv
      | some x => rw [h] at hv; cases hv; exact (unhide HP) j x h
    · cases hv
  have s5 : Hid (∀ v ∈ (ps.take F).map (Value.int .u8), v.oneCell' = true) := fun v hv => by
    obtain ⟨x, _, rfl⟩ := List.mem_map.1 hv
    rfl
  have hmx : n + F ≤ maxLen := by simp only [maxLen]; omega
  have hFc : F ≤ cp := by omega
  clear hR hv hp K0 hz0
  go_region_law (refine step_append_any u.drew rfl (.tmp 48) (.tmp 51) 23 rfl base 5 i0 (.int .u8 0) 1 1 Try.underlying23 hi0 hz1 hz2 hz3 rfl (by omega) g n cap (bs.map (Value.int .u8)) (by simp [Act.eval, Act.put]) (unhide HV) ⟨pb, po, none⟩ F cp ((ps.take F).map (Value.int .u8)) (by simp [Act.eval, Act.put]) (unhide s3) (unhide s4) (unhide s5) hmx (by omega) hb ?_; intro g' cap' u2 hown2 hgr2 hgg; have cc : u2.cell? ⟨rB, 1, none⟩ = some (.slice (some ⟨g, 0, none⟩) n cap) := (World.grownBy.cell_far hgr2 ⟨rB, 1, none⟩ hru (by simpa using hgr.symm)).trans c1; have ff : u2.frozen? ⟨rB, 1, none⟩ = false := (World.grownBy.frozen_far hgr2 ⟨rB, 1, none⟩ hru (by simpa using hgr.symm)).trans f1)
  obtain ⟨hx1, hx2⟩ := hown2
  rcases hx2 with ⟨hx3, _⟩ | ⟨gg, cc', cur, hx4, hbg, hcur, hnc, hcm, hcs, htk⟩
  · cases hx3
  cases hx4
  simp only [Nat.mul_one] at hcs htk
  have kg0 : Kp [g] u.drew u2 := Kp.of_grown hgr2
  have kg : Kp [g] u u2 := ((Kp.refl [g] u).drew).trans kg0
  have bO : Blk u2 rB [.int .i64 size, .slice (some ⟨g, 0, none⟩) n cap, .int .i64 nx, .int .i64 (wrap64 (wt + m))] 50 := kg.blk (unhide HR) (by simpa using hgr.symm)
  have bO3 := bO.set 1 (.slice (some ⟨g', 0, none⟩) (n + F) cap')
  replace hgg : g' = g ∨ g' = u.heap.size := hgg
  have hgr' : g' ≠ rB := by rcases hgg with h | h <;> omega
  have pg' : pb ≠ g' := by rcases hgg with h | h <;> omega
  have kr : Kp [rB] u2 (u2.setCell ⟨rB, 1, none⟩ (.slice (some ⟨g', 0, none⟩) (n + F) cap')) := (Kp.refl _ _).setCell (.inl (by simp)) _
  have bC : Blk (u2.setCell ⟨rB, 1, none⟩ (.slice (some ⟨g', 0, none⟩) (n + F) cap')) g' cur.toList 5 := kr.blk (by unfold Blk; simpa using hcur) (by simpa using hgr')
  have kT : Kp (rB :: v0.ownBlock.toList) w0 (u2.setCell ⟨rB, 1, none⟩ (.slice (some ⟨g', 0, none⟩) (n + F) cap')) :=
    ((unhide HK0).then kg (fun i hi => by
      simp only [List.mem_singleton] at hi
      subst hi
      rcases hg0 with h | h
      · left; simp [h]
      · right; exact h)).setCell (.inl (by simp)) _
  have G0 : v0.ownBlock = some g' ∨ w0.heap.size ≤ g' := by
    rcases hgg with h | h
    · subst h; exact hg0
    · right; rw [h]; exact (unhide HK0).size
  have PC : ∀ i x, ps[i]? = some x → (u2.setCell ⟨rB, 1, none⟩ (.slice (some ⟨g', 0, none⟩) (n + F) cap')).cell? ⟨pb, po + i, none⟩ = some (.int .u8 x) := fun i x hx =>
    (kr.cell (p := ⟨pb, po + i, none⟩) (show pb < u2.heap.size from Nat.lt_of_lt_of_le hpu kg.size) (by simpa using p1)).trans ((kg.cell (p := ⟨pb, po + i, none⟩) hpu (by simpa using p2)).trans ((unhide HP) i x hx))
  have pu3 : pb < (u2.setCell ⟨rB, 1, none⟩ (.slice (some ⟨g', 0, none⟩) (n + F) cap')).heap.size := Nat.lt_of_lt_of_le (Nat.lt_of_lt_of_le hpu kg.size) kr.size
  have T1 := hide bO3
  have T2 := hide bC
  have T3 := hide kT
  have T4 := hide G0
  have T5 := hide PC
  have T6 : Hid (cur.toList.take (n + F) = (W size bs nx (ps.take F)).1.map (Value.int .u8)) := by
    show _ = _
    rw [W_fill size nx (ps.take F) bs (by simp; omega), htk]
    simp
  have T7 : Hid ((W size bs nx (ps.take F)).2 = nx) := by
    show _ = _
    rw [W_fill size nx (ps.take F) bs (by simp; omega)]
  have lcur : cur.toList.length = cap' := by simpa using hcs
  clear bO bO3 bC kT G0 PC kr kg kg0 hgr2 hgg hcur htk hx1 HR HV HP HK0 s3 s4 s5 cc ff c1 f1 hg0 hz1 hz2 hz3 hi0
  generalize u2.setCell ⟨rB, 1, none⟩ (.slice (some ⟨g', 0, none⟩) (n + F) cap') = u3 at *
  by_cases hcF : cp = F
  case pos =>
    go_wp2
    go_loopw [1] (fun p wv => ∃ (k : Nat) (a : Option Addr) (cu : List Value), F ≤ k ∧ k ≤ m ∧ p = .slice a (m - k) (cp - k) ∧ (k < m → a = some ⟨pb, po + k, none⟩) ∧
      Blk wv rB [.int .i64 size, .slice (some ⟨g', 0, none⟩) (n + F) cap', .int .i64 (W size bs nx (ps.take k)).2, .int .i64 (wrap64 (wt + m))] 50 ∧ Blk wv g' cu 5 ∧ cu.length = cap' ∧
      cu.take (n + F) = (W size bs nx (ps.take k)).1.map (Value.int .u8) ∧ Kp [rB, g'] u3 wv) (fun p _ => slen p)
    case atStart =>
      refine ⟨F, _, cur.toList, Nat.le_refl _, hF1, (by rw [hcF, Nat.sub_self]), ?_, ?_, unhide T2, lcur, unhide T6, Kp.refl _ _⟩
      · intro h; omega
      · rw [unhide T7]; exact unhide T1
    case round =>
      obtain ⟨k, a, cu, hFk, hk, rfl, ha, bR, bC, lcu, htk, hKr⟩ := hrel
      by_cases hlt : k < m
      · exfalso; omega
      · have hkm : m = k := by omega
        subst hkm
        have G : Hid (ROut w0 base rB size bs nx wt ps v0 (.returned (.tuple #[])) wr) := by
          have e1 : ps.take m = ps := List.take_of_length_le (by omega)
          rw [e1] at bR htk
          have lB : (W size bs nx ps).1.length = n + F := by
            have := congrArg List.length htk
            simp at this
            omega
          refine ⟨rfl, .slice (some ⟨g', 0, none⟩) (n + F) cap', by rw [lp]; exact bR, ⟨by simp, .inr ⟨g', cap', cu.toArray, by rw [lB], hbg, by simpa [Blk] using bC, by rw [lB]; exact hnc, hcm, by simpa using lcu, by rw [lB]; simpa using htk⟩⟩, ?_, by simpa [Value.ownBlock] using hgr', ?_, ?_⟩
          · constructor
            · intro h; cases h
            · intro h
              have : ps.length = 0 := by rw [h.2]; rfl
              omega
          · intro x hx
            simp only [Value.ownBlock, Option.some.injEq] at hx
            subst hx
            exact unhide T4
          · refine (unhide T3).then hKr (fun i hi => ?_)
            simp at hi
            rcases hi with rfl | rfl
            · left; simp
            · rcases unhide T4 with h | h
              · left; simp [h]
              · right; exact h
        clear bR bC htk hKr ha
        go_wp2
        go_end0
        exact unhide G
  case neg =>
    go_wp2
    go_loopw [1] (fun p wv => ∃ (k : Nat) (a : Option Addr) (cu : List Value), F ≤ k ∧ k ≤ m ∧ p = .slice a (m - k) (cp - k) ∧ (k < m → a = some ⟨pb, po + k, none⟩) ∧
      Blk wv rB [.int .i64 size, .slice (some ⟨g', 0, none⟩) (n + F) cap', .int .i64 (W size bs nx (ps.take k)).2, .int .i64 (wrap64 (wt + m))] 50 ∧ Blk wv g' cu 5 ∧ cu.length = cap' ∧
      cu.take (n + F) = (W size bs nx (ps.take k)).1.map (Value.int .u8) ∧ Kp [rB, g'] u3 wv) (fun p _ => slen p)
    case atStart =>
      refine ⟨F, _, cur.toList, Nat.le_refl _, hF1, rfl, ?_, ?_, unhide T2, lcur, unhide T6, Kp.refl _ _⟩
      · intro h; rfl
      · rw [unhide T7]; exact unhide T1
    case round =>
      obtain ⟨k, a, cu, hFk, hk, rfl, ha, bR, bC, lcu, htk, hKr⟩ := hrel
      by_cases hlt : k < m
      · have hsz : n + F = size := hF3 (by omega)
        rw [hsz] at bR htk
        obtain ⟨X, hX⟩ : ∃ X, X = (W size bs nx (ps.take k)).2 := ⟨_, rfl⟩
        have hXs : X < size := by rw [hX]; exact W_next size (by omega) _ _ _ hnx
        obtain ⟨c, hc⟩ : ∃ c, c = min (m - k) (size - X) := ⟨_, rfl⟩
        have hc1 : 0 < c := by omega
        have hc2 : c ≤ m - k := by omega
        have hc3 : X + c ≤ size := by omega
        rw [← hX] at bR
        have ea := ha hlt
        subst ea
        have r0 : wr.cell? ⟨rB, 0, none⟩ = some (.int .i64 size) := bR.cell rfl
        have r1 : wr.cell? ⟨rB, 1, none⟩ = some (.slice (some ⟨g', 0, none⟩) size cap') := bR.cell rfl
        have r2 : wr.cell? ⟨rB, 2, none⟩ = some (.int .i64 X) := bR.cell rfl
        have hcap : size ≤ cap' := by omega
        have hXc : ¬ cap' = X := by omega
        have hXl : X ≤ size := by omega
        obtain ⟨cs, hcs⟩ : ∃ cs : List Value, cs = ((ps.drop k).take c).map (Value.int .u8) := ⟨_, rfl⟩
        have lcs : cs.length = c := by rw [hcs]; simp; omega
        have s3 : Hid (cs.length = Nat.min (m - k) (size - X)) := by show _ = _; rw [lcs, hc]
        have s4 : Hid (∀ j v, cs[j]? = some v → wr.drew.cell? ((⟨pb, po + k, none⟩ : Addr).add j) = some v) := fun j v hv => by
          rw [Addr.add_lit]
          rw [hcs, List.getElem?_map, List.getElem?_take] at hv
          split at hv
          · rw [List.getElem?_drop] at hv
            cases h : ps[k + j]? with
            | none => rw [h] at hv; cases hv
            | some x =>
              rw [h] at hv
              cases hv
              have := (unhide T5) (k + j) x h
              rw [show po + k + j = po + (k + j) by omega]
              exact (hKr.cell (p := ⟨pb, po + (k + j), none⟩) pu3 (by simp; exact ⟨p1, pg'⟩)).trans this
          · cases hv
        have s5 : Hid (∀ v ∈ cs, v.oneCell' = true) := fun v hv => by
          rw [hcs] at hv
          obtain ⟨x, _, rfl⟩ := List.mem_map.1 hv
          rfl
        have s6 : Hid (X + cs.length ≤ cu.length) := by show _ ≤ _; omega
        have bR := hide bR
        have bC : Hid (Blk wr.drew g' cu 5) := bC
        have hKr := hide hKr
        have htk := hide htk
        have HX := hide hX
        have HCS := hide hcs
        have HCC := hide hc
        have HSZ := hide hsz
        clear hX hcs ha hc hsz
        go_wp2
        go_region_law (refine step_copy_blk wr.drew rfl (.tmp 69) (.tmp 70) 23 23 rfl 5 Try.underlying23 info5s g' X (size - X) (cap' - X) ⟨pb, po + k, none⟩ (m - k) (cp - k) (by simp [Act.eval, Act.put]) (by simp [Act.eval, Act.put]) cu 5 (unhide bC) cs (unhide s3) (unhide s4) (unhide s6) (unhide s5) ?_; intro u4 bC4 k4 hs4)
        all_goals (
          have bR4 : Blk u4 rB [.int .i64 size, .slice (some ⟨g', 0, none⟩) size cap', .int .i64 X, .int .i64 (wrap64 (wt + m))] 50 := k4.blk (show Blk wr.drew rB _ 50 from unhide bR) (by simpa using hgr'.symm)
          have q0 : u4.cell? ⟨rB, 0, none⟩ = some (.int .i64 size) := bR4.cell rfl
          have q2 : u4.cell? ⟨rB, 2, none⟩ = some (.int .i64 X) := bR4.cell rfl
          have g2 := bR4.frozen 2
          have hmod : ((X : Int) + (c : Int)) % (size : Int) = (((X + c) % size : Nat) : Int) := by simp
          have hmodt : ((X : Int) + (c : Int)).tmod (size : Int) = (((X + c) % size : Nat) : Int) := by
            rw [Int.tmod_eq_emod_of_nonneg (by omega)]; exact hmod
          have BR4 := hide bR4
          have BC4 := hide bC4
          have K4 := hide k4
          have hs0 : ¬ size = 0 := by omega
          clear bR4 bC4 k4 s3 s4 s5 s6
          change Exit.then _ _ Exit.normal (Act.put _ (some 5) _) _
          simp only [Act.put, List.setIfInBounds_toArray, List.set_cons_succ, List.set_cons_zero]
          go_wp2
          have REL : Hid (∀ (a : Option Addr), (k + c < m → a = some ⟨pb, po + (k + c), none⟩) → ∃ (k' : Nat) (a' : Option Addr) (cu' : List Value), F ≤ k' ∧ k' ≤ m ∧ Value.slice a (m - k - c) (cp - k - c) = .slice a' (m - k') (cp - k') ∧ (k' < m → a' = some ⟨pb, po + k', none⟩) ∧
              Blk (u4.drew.setCell ⟨rB, 2, none⟩ (.int .i64 (((X + c) % size : Nat) : Int))) rB [.int .i64 size, .slice (some ⟨g', 0, none⟩) (n + F) cap', .int .i64 (W size bs nx (ps.take k')).2, .int .i64 (wrap64 (wt + m))] 50 ∧ Blk (u4.drew.setCell ⟨rB, 2, none⟩ (.int .i64 (((X + c) % size : Nat) : Int))) g' cu' 5 ∧ cu'.length = cap' ∧
              cu'.take (n + F) = (W size bs nx (ps.take k')).1.map (Value.int .u8) ∧ Kp [rB, g'] u3 (u4.drew.setCell ⟨rB, 2, none⟩ (.int .i64 (((X + c) % size : Nat) : Int)))) := fun a hA => by
            have lB : (W size bs nx (ps.take k)).1.length = size := by
              have := congrArg List.length (unhide htk)
              simp at this
              omega
            have WS : W size bs nx (ps.take (k + c)) = ((W size bs nx (ps.take k)).1.take X ++ (ps.drop k).take c ++ (W size bs nx (ps.take k)).1.drop (X + c), (X + c) % size) := by
              have lch : ((ps.drop k).take c).length = c := by simp; omega
              rw [List.take_add, W_append, ← unhide HX, W_full size _ _ X lB hXs (by omega), lch]
            have kr : Kp [rB] u4 (u4.drew.setCell ⟨rB, 2, none⟩ (.int .i64 (((X + c) % size : Nat) : Int))) := ((Kp.refl _ _).drew).setCell (.inl (by simp)) _
            refine ⟨k + c, a, _, by omega, by omega, by rw [Nat.sub_sub, Nat.sub_sub], hA, ?_, kr.blk (unhide BC4) (by simpa using hgr'), ?_, ?_, ?_⟩
            · rw [unhide HSZ, WS]
              exact Blk.set (show Blk u4.drew rB _ 50 from unhide BR4) 2 _
            · simp
              omega
            · rw [unhide HSZ, WS, splice cu _ cs X size (unhide htk) (by omega) (by omega), lcs, unhide HCS]
              simp
            · exact (((unhide hKr).drew).trans ((unhide K4).mono (fun k _ h => by simp at h; simp [h]))).trans (kr.mono (fun k _ h => by simp at h; simp [h]))
          go_region)
        all_goals (
          by_cases hee : cp - k = c
          · have REL1 := (unhide REL) (some ⟨pb, po + k, none⟩) (fun h => by omega)
            rw [show cp - k - c = 0 by omega] at REL1
            have REL1 := hide REL1
            go_wp2
            go_roundw
            case rel => exact unhide REL1
            case measure => simp [slen]; omega
          · have REL1 := hide ((unhide REL) (some ⟨pb, po + k + c, none⟩) (fun h => by rw [Nat.add_assoc]))
            go_wp2
            go_roundw
            case rel => exact unhide REL1
            case measure => simp [slen]; omega)
      · have hkm : m = k := by omega
        subst hkm
        have G : Hid (ROut w0 base rB size bs nx wt ps v0 (.returned (.tuple #[])) wr) := by
          have e1 : ps.take m = ps := List.take_of_length_le (by omega)
          rw [e1] at bR htk
          have lB : (W size bs nx ps).1.length = n + F := by
            have := congrArg List.length htk
            simp at this
            omega
          refine ⟨rfl, .slice (some ⟨g', 0, none⟩) (n + F) cap', by rw [lp]; exact bR, ⟨by simp, .inr ⟨g', cap', cu.toArray, by rw [lB], hbg, by simpa [Blk] using bC, by rw [lB]; exact hnc, hcm, by simpa using lcu, by rw [lB]; simpa using htk⟩⟩, ?_, by simpa [Value.ownBlock] using hgr', ?_, ?_⟩
          · constructor
            · intro h; cases h
            · intro h
              have : ps.length = 0 := by rw [h.2]; rfl
              omega
          · intro x hx
            simp only [Value.ownBlock, Option.some.injEq] at hx
            subst hx
            exact unhide T4
          · refine (unhide T3).then hKr (fun i hi => ?_)
            simp at hi
            rcases hi with rfl | rfl
            · left; simp
            · rcases unhide T4 with h | h
              · left; simp [h]
              · right; exact h
        clear bR bC htk hKr ha
        go_wp2
        go_end0
        exact unhide G

set_option maxRecDepth 1000000 in
set_option maxHeartbeats 1000000 in
theorem writeB (rB size m cp pb po g n cap nx base : Nat) (wt : Int) (bs ps : List Int) (v0 : Value) (w0 u : World) (u2 u3 u4 u5 u6 u7 u8 u9 u10 u11 u12 u13 u14 u15 u16 u17 u18 u19 u20 u21 u22 u23 u24 u25 u26 u27 u28 u29 u30 u31 u32 u33 u34 u35 u36 u37 u38 u39 u40 u41 u42 u43 u44 u45 u46 u47 u48 u49 u50 u51 u52 u53 u54 u55 u56 u57 u58 u59 u60 u61 u62 u63 u64 u65 u66 u67 u68 u69 u70 u71 u72 u73 u74 u75 u76 u77 u78 u79 u80 u81 u82 u83 u84 u85 u86 u87 u88 : Value)
    (hR : Blk u rB [.int .i64 size, .slice (some ⟨g, 0, none⟩) n cap, .int .i64 nx, .int .i64 wt] 50) (hn : bs.length = n)
    (hv : u.ownsRow base 5 1 (.slice (some ⟨g, 0, none⟩) n cap) n (bs.map (Value.int .u8))) (hgr : g ≠ rB) (hb : base ≤ u.heap.size)
    (hp : ∀ i x, ps[i]? = some x → u.cell? ⟨pb, po + i, none⟩ = some (.int .u8 x)) (lp : ps.length = m) (hpu : pb < u.heap.size) (p1 : pb ≠ rB) (p2 : pb ≠ g)
    (s1 : 1 ≤ size) (s2 : size ≤ 65536) (hl : n ≤ size) (hnx : nx < size) (h0 : n < size → nx = 0) (m0 : 0 < m) (hm : m ≤ 1048576) (hcp : m ≤ cp)
    (K0 : Kp (rB :: v0.ownBlock.toList) w0 u) (hg0 : v0.ownBlock = some g ∨ w0.heap.size ≤ g) (hrw : rB < w0.heap.size)
    (K : Act → World → Prop) (hK : ∀ a w', Code.wp Try.prog (restOf2 3 Try.f32) (bodyPost Try.prog Try.f32 (ROut w0 base rB size bs nx wt ps v0)) a w' → K a w') :
    Code.wp Try.prog (headOf2 3 Try.f32) (Exit.then K (bodyPost Try.prog Try.f32 (ROut w0 base rB size bs nx wt ps v0))) ⟨#[.pointer (some ⟨rB, 0, none⟩), .slice (some ⟨pb, po, none⟩) m cp, u2, u3, u4, u5, u6, u7, u8, u9, u10, u11, u12, u13, u14, u15, u16, u17, u18, u19, u20, u21, u22, u23, u24, u25, u26, u27, u28, u29, u30, u31, u32, u33, u34, u35, u36, u37, u38, u39, u40, u41, u42, u43, u44, u45, u46, u47, u48, u49, u50, u51, u52, u53, u54, u55, u56, u57, u58, u59, u60, u61, u62, u63, u64, u65, u66, u67, u68, u69, u70, u71, u72, u73, u74, u75, u76, u77, u78, u79, u80, u81, u82, u83, u84, u85, u86, u87, u88], []⟩ u := by
  conv at hK => enter [a, w', 1, 2]; whnf
  conv => arg 2; whnf
  obtain ⟨F, hF⟩ : ∃ F : Nat, F = min (size - n) m := ⟨_, rfl⟩
  have hF1 : F ≤ m := by omega
  have hF2 : n + F ≤ size := by omega
  have hF3 : F < m → n + F = size := by omega
  have c0 : u.cell? ⟨rB, 0, none⟩ = some (.int .i64 size) := hR.cell rfl
  have c1 : u.cell? ⟨rB, 1, none⟩ = some (.slice (some ⟨g, 0, none⟩) n cap) := hR.cell rfl
  have c3 : u.cell? ⟨rB, 3, none⟩ = some (.int .i64 wt) := hR.cell rfl
  have f3 := hR.frozen 3
  have R1 := hide (hR.set 3 (.int .i64 (wrap64 (wt + m))))
  have k1 : Kp [rB] u (u.setCell ⟨rB, 3, none⟩ (.int .i64 (wrap64 (wt + m)))) := (Kp.refl _ _).setCell (.inl (by simp)) _
  have K1 := hide k1
  have HV := hide hv
  have HP := hide hp
  have HK0 := hide K0
  have G0 := hide hg0
  clear hR hv hp K0 k1 hg0
  go_wp2
  generalize u.setCell ⟨rB, 3, none⟩ (.int .i64 (wrap64 (wt + m))) = u1 at *
  clear c0 c1 c3 f3
  have R1 : Blk u1 rB [.int .i64 size, .slice (some ⟨g, 0, none⟩) n cap, .int .i64 nx, .int .i64 (wrap64 (wt + m))] 50 := unhide R1
  have c0 : u1.cell? ⟨rB, 0, none⟩ = some (.int .i64 size) := R1.cell rfl
  have c1 : u1.cell? ⟨rB, 1, none⟩ = some (.slice (some ⟨g, 0, none⟩) n cap) := R1.cell rfl
  have HR1 := hide R1
  clear R1
  have V1 : Hid (u1.drew.ownsRow base 5 1 (.slice (some ⟨g, 0, none⟩) n cap) n (bs.map (Value.int .u8))) := by
    refine World.ownsRow.kept (unhide HV) (row := some rB) ⟨(unhide K1).os, (unhide K1).tape, (unhide K1).output, (unhide K1).size, fun k hk hr => (unhide K1).block k hk (by simpa using hr)⟩ (.inr ?_)
    simpa [Value.ownBlock] using hgr
  have P1 : Hid (∀ i x, ps[i]? = some x → u1.drew.cell? ⟨pb, po + i, none⟩ = some (.int .u8 x)) := fun i x hx => ((unhide K1).cell (p := ⟨pb, po + i, none⟩) hpu (by simpa using p1)).trans ((unhide HP) i x hx)
  have K2 : Hid (Kp (rB :: v0.ownBlock.toList) w0 u1.drew) := ((unhide HK0).trans ((unhide K1).mono (fun k _ h => by simp at h; simp [h]))).drew
  have b1 : base ≤ u1.drew.heap.size := Nat.le_trans hb (unhide K1).size
  have b2 : pb < u1.drew.heap.size := Nat.lt_of_lt_of_le hpu (unhide K1).size
  by_cases hc : (size : Int) - (n : Int) ≤ (m : Int)
  case neg =>
    have hFm : F = m := by omega
    have HF3 := hide hF3
    clear hF hF3
    go_region
    go_upto_region 5 with fail
    subst hFm
    have hF3 := unhide HF3
    refine writeC rB size F cp pb po g n cap nx base wt bs ps v0 w0 u1.drew F _ _ _ _ _ _ _ _ _ _ _ _ _ _ _ _ _ _ _ _ _ _ _ _ _ _ _ _ _ _ _ _ _ _ _ _ _ _ _ _ _ _ _ _ _ _ _ _ _ _ _ _ _ _ _ _ _ _ _ _ _ _ _ _ _ _ _ _ _ _ _ _ _ _ _ _ _ _ _ _ _ _ _ _ _ _ (unhide HR1) hn (unhide V1) hgr b1 (unhide P1) lp b2 p1 p2 s1 s2 hl hnx h0 m0 hm hcp (unhide K2) (unhide G0) hrw hF1 hF2 hF3 _ ?_
    assumption
  case pos =>
    have e : (size : Int) - (n : Int) = (F : Int) := by omega
    have HF3 := hide hF3
    clear hF hF3
    go_region
    go_upto_region 5 with fail
    have hF3 := unhide HF3
    refine writeC rB size m cp pb po g n cap nx base wt bs ps v0 w0 u1.drew F _ _ _ _ _ _ _ _ _ _ _ _ _ _ _ _ _ _ _ _ _ _ _ _ _ _ _ _ _ _ _ _ _ _ _ _ _ _ _ _ _ _ _ _ _ _ _ _ _ _ _ _ _ _ _ _ _ _ _ _ _ _ _ _ _ _ _ _ _ _ _ _ _ _ _ _ _ _ _ _ _ _ _ _ _ _ (unhide HR1) hn (unhide V1) hgr b1 (unhide P1) lp b2 p1 p2 s1 s2 hl hnx h0 m0 hm hcp (unhide K2) (unhide G0) hrw hF1 hF2 hF3 _ ?_
    assumption
end Go.Proofs.Qxb6601367a
