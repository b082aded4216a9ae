/-
  (*ring).write (32): the whole.
-/
import Derived.Test.Qxb6601367aWrite
set_option linter.unusedSimpArgs false
set_option linter.unusedVariables false
namespace Go.Proofs.Qxb6601367a
open Go.RowKit

set_option maxRecDepth 1000000 in
set_option maxHeartbeats 1000000 in
theorem write32 (rB size cp nx base : Nat) (wt : Int) (bs ps : List Int) (v : Value) (pp : Option Addr) (w : World)
    (hR : Blk w rB [.int .i64 size, v, .int .i64 nx, .int .i64 wt] 50) (hv : w.ownsRow base 5 1 v bs.length (bs.map (Value.int .u8))) (hvr : v.ownBlock ≠ some rB) (hb : base ≤ w.heap.size)
    (hp : Src w pp (ps.map (Value.int .u8))) (hsep : ∀ a, pp = some a → a.block ≠ rB ∧ v.ownBlock ≠ some a.block)
    (s1 : 1 ≤ size) (s2 : size ≤ 65536) (hl : bs.length ≤ size) (hnx : nx < size) (h0 : bs.length < size → nx = 0) (hm : ps.length ≤ 1048576) (hcp : ps.length ≤ cp)
    (hwt : -9223372036854775808 ≤ wt ∧ wt ≤ 9223372036854775807) :
    Calls Try.prog 32 #[.pointer (some ⟨rB, 0, none⟩), .slice pp ps.length cp] w (ROut w base rB size bs nx wt ps v) := by
  have c0 : w.cell? ⟨rB, 0, none⟩ = some (.int .i64 size) := hR.cell rfl
  have c1 : w.cell? ⟨rB, 1, none⟩ = some v := hR.cell rfl
  have f1 := hR.frozen 1
  have hlt := hR.lt
  obtain ⟨m, hmm⟩ : ∃ m, m = ps.length := ⟨_, rfl⟩
  rw [← hmm] at hm hcp ⊢
  by_cases hz : m = 0
  · have hps : ps = [] := List.eq_nil_of_length_eq_zero (by omega)
    have G : Hid (ROut w base rB size bs nx wt ps v (.returned (.tuple #[])) w) := by
      subst hps
      refine ⟨rfl, v, ?_, hv, by simp, hvr, fun g h => .inl h, Kp.refl _ _⟩
      rw [show wrap64 (wt + (([] : List Int).length : Int)) = wt from by simp; exact IntWalk.wrap64_in _ hwt]
      exact hR
    subst hz
    clear hR hv hp hsep hmm hps hcp hm
    go_enter Try.func32, Try.ntmps32
    go_wp2
    first | (go_end0; exact unhide G) | (refine bodyPost_ret (v := .tuple #[]) (by simp [results, Try.results32, go_sem]) rfl ?_; exact unhide G)
  · obtain ⟨pb, po, rfl, hpb, hpc⟩ := hp (by simp; omega)
    have hsp := hsep _ rfl
    have hpc' : ∀ i x, ps[i]? = some x → w.cell? ⟨pb, po + i, none⟩ = some (.int .u8 x) := fun i x hx => hpc i _ (by simp [hx])
    have HP := hide hpc'
    have HR := hide hR
    have HV := hide hv
    have hz' : (m == 0) = false := by simp [hz]
    have HMM := hide hmm
    have m0 : 0 < m := by omega
    clear hmm
    clear hpc hpc' hR hv hp hsep
    rcases (unhide HV).2 with ⟨hvn, hn0⟩ | ⟨g, cap, cur, hvs, hbg, hcur, hnc, hcm, hcs, htk⟩
    · subst hvn
      obtain ⟨i0, hi0, hz0⟩ : ∃ i, Try.prog.info? 5 = some i ∧ (i.zero, i.size, i.bytes) = (some (.int .u8 0), 1, 1) := by
        have := info5
        cases h : Try.prog.info? 5 with
        | none => rw [h] at this; cases this
        | some i => rw [h] at this; exact ⟨i, rfl, by simpa using this⟩
      have hz1 : i0.zero = some (.int .u8 0) := congrArg (·.1) hz0
      have hz2 : i0.size = 1 := congrArg (·.2.1) hz0
      have hz3 : i0.bytes = 1 := congrArg (·.2.2) hz0
      have hmk : ∀ w, (Instr.makeSlice 23 (.int .i64 0) (.int .i64 (size : Int))).run Try.prog w = .ok (.slice (some ⟨w.heap.size, 0, none⟩) 0 size) (w.alloc (.cells (madeCells #[.int .u8 0] size) 5)) := fun w => by
        have := run_make (P := Try.prog) w 23 5 i0 (.int .u8 0) Try.underlying23 hi0 hz1 .i64 .i64 0 (size : Int) (by omega) (by omega) (by rw [hz3]; omega) (by omega)
        rw [hz2] at this
        simpa [Value.cells] using this
      have hnil : ∀ w, (binOp .eql 23 (.slice none 0 0) (.slice none 0 0)).run Try.prog w = .ok (.bool true) w := fun w => by
        rw [Lib.run_eql_slice_nil w 23 5 _ _ _ _ _ Try.underlying23]; rfl
      have hbs : bs = [] := List.eq_nil_of_length_eq_zero hn0
      subst hbs
      have k1 : Kp [] w (w.alloc (.cells (madeCells #[.int .u8 0] size) 5)) := (Kp.refl _ _).alloc _
      have k2 : Kp [rB] w ((w.setCell ⟨rB, 1, none⟩ (.slice (some ⟨w.heap.size, 0, none⟩) 0 size)).alloc (.cells (madeCells #[.int .u8 0] size) 5)) := ((Kp.refl _ _).setCell (.inl (by simp)) _).alloc _
      have B1 : Blk ((w.setCell ⟨rB, 1, none⟩ (.slice (some ⟨w.heap.size, 0, none⟩) 0 size)).alloc (.cells (madeCells #[.int .u8 0] size) 5)) rB _ 50 := ((Kp.refl [] _).alloc _).blk ((unhide HR).set 1 (.slice (some ⟨w.heap.size, 0, none⟩) 0 size)) (by simp)
      have O1 : ((w.setCell ⟨rB, 1, none⟩ (.slice (some ⟨w.heap.size, 0, none⟩) 0 size)).alloc (.cells (madeCells #[.int .u8 0] size) 5)).ownsRow base 5 1 (.slice (some ⟨w.heap.size, 0, none⟩) 0 size) 0 [] := by
        have o := World.ownsRow_made (base := base) (e := 5) (size := 1) (w.setCell ⟨rB, 1, none⟩ (.slice (some ⟨w.heap.size, 0, none⟩) 0 size)) (madeCells #[.int .u8 0] size) size (by simpa [World.setCell] using hb) (by simp only [maxLen]; omega) (by simp [madeCells])
        have e : (w.setCell ⟨rB, 1, none⟩ (.slice (some ⟨w.heap.size, 0, none⟩) 0 size)).heap.size = w.heap.size := by simp [World.setCell]
        rw [e] at o
        exact o
      have P1 : ∀ i x, ps[i]? = some x → ((w.setCell ⟨rB, 1, none⟩ (.slice (some ⟨w.heap.size, 0, none⟩) 0 size)).alloc (.cells (madeCells #[.int .u8 0] size) 5)).cell? ⟨pb, po + i, none⟩ = some (.int .u8 x) := fun i x hx =>
        (k2.cell (p := ⟨pb, po + i, none⟩) hpb (by simpa using hsp.1)).trans ((unhide HP) i x hx)
      have B1 := hide B1
      have O1 := hide O1
      have P1 := hide P1
      have K2 := hide k2
      have z1 := k2.size
      have HZ1 := hide z1
      clear k1 k2 z1 hi0 hz0 hz1 hz2 hz3
      go_enter Try.func32, Try.ntmps32
      go_upto_region 3 with fail
      refine writeB rB size m cp pb po w.heap.size 0 size nx base wt [] ps (.slice none 0 0) w _ _ _ _ _ _ _ _ _ _ _ _ _ _ _ _ _ _ _ _ _ _ _ _ _ _ _ _ _ _ _ _ _ _ _ _ _ _ _ _ _ _ _ _ _ _ _ _ _ _ _ _ _ _ _ _ _ _ _ _ _ _ _ _ _ _ _ _ _ _ _ _ _ _ _ _ _ _ _ _ _ _ _ _ _ _ _ _ (unhide B1) rfl (unhide O1) (by omega) (Nat.le_trans hb (unhide HZ1)) (unhide P1) (unhide HMM).symm (Nat.lt_of_lt_of_le hpb (unhide HZ1)) hsp.1 (by omega) s1 s2 (by omega) hnx h0 (by omega) hm hcp ((unhide K2).mono (fun k _ h => by simp at h; simp [h])) (.inr (Nat.le_refl _)) hlt _ ?_
      assumption
    · subst hvs
      have hnil : ∀ w, (binOp .eql 23 (.slice (some ⟨g, 0, none⟩) bs.length cap) (.slice none 0 0)).run Try.prog w = .ok (.bool false) w := fun w => by
        rw [Lib.run_eql_slice_nil w 23 5 _ _ _ _ _ Try.underlying23]; rfl
      have hgr : g ≠ rB := by simpa [Value.ownBlock] using hvr
      go_enter Try.func32, Try.ntmps32
      go_upto_region 3 with fail
      refine writeB rB size m cp pb po g bs.length cap nx base wt bs ps (.slice (some ⟨g, 0, none⟩) bs.length cap) w w _ _ _ _ _ _ _ _ _ _ _ _ _ _ _ _ _ _ _ _ _ _ _ _ _ _ _ _ _ _ _ _ _ _ _ _ _ _ _ _ _ _ _ _ _ _ _ _ _ _ _ _ _ _ _ _ _ _ _ _ _ _ _ _ _ _ _ _ _ _ _ _ _ _ _ _ _ _ _ _ _ _ _ _ _ _ _ (unhide HR) rfl (unhide HV) hgr hb (unhide HP) (unhide HMM).symm hpb hsp.1 (by simpa [Value.ownBlock] using Ne.symm hsp.2) s1 s2 hl hnx h0 (by omega) hm hcp (Kp.refl _ _) (.inl rfl) hlt _ ?_
      assumption
end Go.Proofs.Qxb6601367a
