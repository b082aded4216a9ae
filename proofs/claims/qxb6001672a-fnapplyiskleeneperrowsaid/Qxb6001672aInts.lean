/-
  (*Rows).Ints (54), (*Rows).Strings (53), where no found column answers.
-/
import Derived.Test.Qxb6001672aFound
import Derived.Test.Qxb6001672aBits
namespace Go.Proofs.Qxb6001672a
open Go.RowKit

/-- What a batch of rows holds of its column c: the layout, each row's words; N: the null flags. -/
structure RW (w : World) (rB lB sB rwB m nC c slot pr nulls : Nat) (bw : Nat → Nat) (N : List Bool) : Prop where
  r0 : w.cell? ⟨rB, 0, none⟩ = some (.pointer (some ⟨lB, 0, none⟩))
  r1 : w.cell? ⟨rB, 1, none⟩ = some (.slice (some ⟨rwB, 0, none⟩) m m)
  l0 : w.cell? ⟨lB, 0, none⟩ = some (.slice (some ⟨sB, 0, none⟩) nC nC)
  l3 : w.cell? ⟨lB, 3, none⟩ = some (.int .i64 nulls)
  s : w.cell? ⟨sB, c, none⟩ = some (.int .i64 slot)
  row : ∀ i, i < m → w.cell? ⟨rwB, i, none⟩ = some (.slice (some ⟨bw i, 0, none⟩) pr pr)
  nul : ∀ i, i < m → ∃ x : Nat, x < 18446744073709551616 ∧ w.cell? ⟨bw i, nulls + c / 64, none⟩ = some (.int .u64 x) ∧ N[i]? = some (x.testBit (c % 64))
  bm : m ≤ 64
  bc : c < nC
  bn : nC ≤ 130
  bu : nulls ≤ 130
  bp : nulls + c / 64 < pr
  bl : N.length = m
  bs : slot ≤ 130

/-- .. and its integers V. -/
structure RI (w : World) (m slot pr : Nat) (bw : Nat → Nat) (V : List Int) : Prop where
  val : ∀ i, i < m → ∃ y : Int, w.cell? ⟨bw i, slot, none⟩ = some (.int .u64 y) ∧ V[i]? = some (wrap64 y)
  bv : V.length = m
  bsl : slot < pr

/-- .. or its strings. -/
structure RS (w : World) (rB txB m slot ps : Nat) (bt : Nat → Nat) (V : List ByteArray) : Prop where
  r2 : w.cell? ⟨rB, 2, none⟩ = some (.slice (some ⟨txB, 0, none⟩) m m)
  row : ∀ i, i < m → w.cell? ⟨txB, i, none⟩ = some (.slice (some ⟨bt i, 0, none⟩) ps ps)
  val : ∀ i, i < m → ∃ s, w.cell? ⟨bt i, slot, none⟩ = some (.string s) ∧ V[i]? = some s
  bv : V.length = m
  bsl : slot < ps

theorem old_cell {w0 w : World} (hb : Below w0.heap.size w0 w) {a : Addr} {v : Value} (h : w0.cell? a = some v) : w.cell? a = some v :=
  (hb.cell (block_lt_of_cell h)).trans h

theorem RW.below {w0 w : World} {rB lB sB rwB m nC c slot pr nulls : Nat} {bw : Nat → Nat} {N : List Bool} (h : RW w0 rB lB sB rwB m nC c slot pr nulls bw N) (hb : Below w0.heap.size w0 w) :
    RW w rB lB sB rwB m nC c slot pr nulls bw N where
  r0 := old_cell hb h.r0
  r1 := old_cell hb h.r1
  l0 := old_cell hb h.l0
  l3 := old_cell hb h.l3
  s := old_cell hb h.s
  row := fun i hi => old_cell hb (h.row i hi)
  nul := fun i hi => by obtain ⟨x, h1, h2, h3⟩ := h.nul i hi; exact ⟨x, h1, old_cell hb h2, h3⟩
  bm := h.bm
  bc := h.bc
  bn := h.bn
  bu := h.bu
  bp := h.bp
  bl := h.bl
  bs := h.bs
theorem RI.below {w0 w : World} {m slot pr : Nat} {bw : Nat → Nat} {V : List Int} (h : RI w0 m slot pr bw V) (hb : Below w0.heap.size w0 w) : RI w m slot pr bw V where
  val := fun i hi => by obtain ⟨y, h1, h2⟩ := h.val i hi; exact ⟨y, old_cell hb h1, h2⟩
  bv := h.bv
  bsl := h.bsl
theorem RS.below {w0 w : World} {rB txB m slot ps : Nat} {bt : Nat → Nat} {V : List ByteArray} (h : RS w0 rB txB m slot ps bt V) (hb : Below w0.heap.size w0 w) : RS w rB txB m slot ps bt V where
  r2 := old_cell hb h.r2
  row := fun i hi => old_cell hb (h.row i hi)
  val := fun i hi => by obtain ⟨y, h1, h2⟩ := h.val i hi; exact ⟨y, old_cell hb h1, h2⟩
  bv := h.bv
  bsl := h.bsl

/-- What Ints and Strings leave. -/
def ReadOut (w : World) (vB nB : Nat) (t : TypeId) (V : List Value) (N : List Bool) (tv tn : Value) (e : Ending) (w' : World) : Prop :=
  e = .returned (.bool (N.any id)) ∧ Blk w' vB (V ++ [tv]) t ∧ Blk w' nB (N.map Value.bool ++ [tn]) 4 ∧ Kp [vB, nB] w w'

set_option maxRecDepth 100000 in
set_option maxHeartbeats 800000 in
theorem ints54 (rB lB sB rwB fB fcap vB nB m nC c slot pr nulls : Nat) (fp : Option Addr) (cols : List Int) (bw : Nat → Nat) (V : List Int) (N : List Bool) (vs : List Int) (ns : List Bool) (tv tn : Value) (w0 w : World)
    (hW : RW w0 rB lB sB rwB m nC c slot pr nulls bw N) (hI : RI w0 m slot pr bw V)
    (hR : w0.cell? ⟨rB, 4, none⟩ = some (.slice fp cols.length fcap)) (hF : ∀ i x, cols[i]? = some x → fp = some ⟨fB, 0, none⟩ ∧ w0.cell? ⟨fB, i * 5, none⟩ = some (.int .i64 x))
    (hcols : cols.length ≤ 1048576) (hno : foundAt fB c 0 cols = none)
    (hb : Below w0.heap.size w0 w) (hvB : w0.heap.size ≤ vB) (hnB : w0.heap.size ≤ nB) (hvn : vB ≠ nB)
    (hv : Blk w vB (vs.map (Value.int .i64) ++ [tv]) 2) (hn : Blk w nB (ns.map Value.bool ++ [tn]) 4) (lv : vs.length = m) (ln : ns.length = m) :
    Calls Try.prog 54 #[.pointer (some ⟨rB, 0, none⟩), .int .i64 c, .slice (some ⟨vB, 0, none⟩) (m + 1) (m + 1), .slice (some ⟨nB, 0, none⟩) (m + 1) (m + 1)] w (ReadOut w vB nB 2 (V.map (Value.int .i64)) N tv tn) := by
  have hneq : ∀ w, (binOp .neq 61 (.pointer none) (.pointer none)).run Try.prog w = .ok (.bool false) w := fun w => by kernel_rfl
  have HF : Hid (Calls Try.prog 55 #[.pointer (some ⟨rB, 0, none⟩), .int .i64 c] w (Found w fB c cols)) :=
    foundOf55 rB fB fcap fp c cols w hcols (old_cell hb hR) (fun i x hx => ⟨(hF i x hx).1, old_cell hb (hF i x hx).2⟩)
  have HW := hW.below hb
  have hr0 := HW.r0
  have hr1 := HW.r1
  have hl0 := HW.l0
  have hl3 := HW.l3
  have hs := HW.s
  have hm := HW.bm
  have hc := HW.bc
  have hnC := HW.bn
  have hnu := HW.bu
  have hcI : ((c : Nat) : Int) < (nC : Int) := by omega
  clear hR hF HW
  go_enter Try.func54, Try.ntmps54
  go_wp2_with (go_at_call 55; refine HF.out.mono ?_; rintro e w' ⟨rfl, rfl⟩; rw [hno])
  go_quiet (fail)
  go_wp2
  go_quiet (fail)
  go_wp2
  clear hr0 hr1 hl0 hl3 hs HF hneq
  go_loopw [13, 80] (fun any i wr => ∃ k : Nat, k ≤ m ∧ i = .int .i64 k ∧ any = .int .u64 (gw N (c % 64) k) ∧ Blk wr vB (ovr (V.map (Value.int .i64)) (vs.map (Value.int .i64) ++ [tv]) k) 2 ∧
    Blk wr nB (ovr (N.map Value.bool) (ns.map Value.bool ++ [tn]) k) 4 ∧ Kp [vB, nB] w' wr) (fun _ i _ => m - (intOf i).toNat)
  case atStart =>
    refine ⟨0, Nat.zero_le _, rfl, by rw [gw_zero], ?_, ?_, (Kp.refl _ _).drewN _⟩
    · rw [ovr_zero]; exact hv.drewN _
    · rw [ovr_zero]; exact hn.drewN _
  case round =>
    obtain ⟨k, hk, rfl, rfl, hBv, hBn, hK⟩ := hrel
    by_cases hlt : k < m
    · have HW := hW.below (hK.below hb hb.size (by simp; exact ⟨hvB, hnB⟩))
      have HI := hI.below (hK.below hb hb.size (by simp; exact ⟨hvB, hnB⟩))
      have h1 := HW.row k hlt
      obtain ⟨x, hx, h2, h2n⟩ := HW.nul k hlt
      obtain ⟨y, h3, h3v⟩ := HI.val k hlt
      have h4 : (nulls : Int) + (c : Int) / 64 < pr := by have := HW.bp; omega
      have h5 : (slot : Int) < pr := by have := HI.bsl; omega
      have l1 := hI.bv
      have l2 := hW.bl
      obtain ⟨ov, hov⟩ := getElem?_lt_some vs k (by omega)
      obtain ⟨on, hon⟩ := getElem?_lt_some ns k (by omega)
      have h6 : wr.cell? ⟨vB, k, none⟩ = some (.int .i64 ov) := hBv.cell (by rw [ovr_at _ _ _ (by simp; omega), List.getElem?_append_left (by simp; omega)]; simp [hov])
      have h7 : wr.cell? ⟨nB, k, none⟩ = some (.bool on) := hBn.cell (by rw [ovr_at _ _ _ (by simp; omega), List.getElem?_append_left (by simp; omega)]; simp [hon])
      have h8 := hBv.frozen k
      have h9 := hBn.frozen k
      have E1 : Hid (bits .or .u64 (gw N (c % 64) k) (bits .and .u64 (x : Int) (IntKind.u64.wrap (2 ^ (c % 64)))) = gw N (c % 64) (k + 1)) :=
        gw_succ N (c % 64) k x hx (Nat.mod_lt _ (by omega)) h2n
      have E2 : Hid ((bits .and .u64 (x : Int) (IntKind.u64.wrap (2 ^ (c % 64))) != 0) = x.testBit (c % 64)) := and_ne0 x (c % 64) hx (Nat.mod_lt _ (by omega))
      have B1 : ∀ u, Blk ((wr.setCell ⟨vB, k, none⟩ (.int .i64 (wrap64 y))).setCell ⟨nB, k, none⟩ u) vB (ovr (V.map (Value.int .i64)) (vs.map (Value.int .i64) ++ [tv]) (k + 1)) 2 := by
        intro u
        have b1 := hBv.set k (.int .i64 (wrap64 y))
        rw [ovr_set _ _ _ _ (by simp [h3v]) (by simp; omega)] at b1
        exact ((Kp.refl [nB] _).setCell (.inl (by simp)) u).blk b1 (by simpa using hvn)
      have B2 : Blk ((wr.setCell ⟨vB, k, none⟩ (.int .i64 (wrap64 y))).setCell ⟨nB, k, none⟩ (.bool (x.testBit (c % 64)))) nB (ovr (N.map Value.bool) (ns.map Value.bool ++ [tn]) (k + 1)) 4 := by
        have b0 := ((Kp.refl [vB] wr).setCell (p := ⟨vB, k, none⟩) (.inl (by simp)) (.int .i64 (wrap64 y))).blk hBn (by simpa using hvn.symm)
        have b1 := b0.set k (.bool (x.testBit (c % 64)))
        rwa [ovr_set _ _ _ _ (by simp [h2n]) (by simp; omega)] at b1
      have HK : Hid (Kp [vB, nB] w' wr) := hK
      clear hBv hBn hK HW HI h2n h3v hov hon hW hI
      go_wp2
      go_roundw
      case rel =>
        refine ⟨k + 1, by omega, by go_num, by rw [E1.out], B1 _, ?_, ?_⟩
        · rw [E2.out]; exact B2
        · exact (HK.out.setCell (.inl (by simp)) _).setCell (.inl (by simp)) _
      case measure => simp [intOf]; omega
    · obtain rfl : k = m := by omega
      have G : Hid ((gw N (c % 64) k != 0) = N.any id) := gw_ne0 _ _ _ (by have := hW.bl; omega)
      have l1 := hI.bv
      have l2 := hW.bl
      rw [ovr_all _ _ _ (by simpa using l1)] at hBv
      rw [ovr_all _ _ _ (by simpa using l2)] at hBn
      rw [List.drop_append_of_le_length (by simp; omega), List.drop_eq_nil_of_le (by simp; omega)] at hBv hBn
      go_wp2
      go_ret
      refine ⟨?_, hBv, hBn, hK⟩
      show Ending.returned (.bool (gw N (c % 64) k != 0)) = _
      rw [G.out]

theorem ints_one (k : IntKind) (zs : List Int) : ∀ u ∈ zs.map (Value.int k), u.oneCell' = true := ints_oneCell k zs
theorem bools_one (zs : List Bool) : ∀ u ∈ zs.map Value.bool, u.oneCell' = true := by
  intro u hu
  obtain ⟨_, _, rfl⟩ := List.mem_map.1 hu
  rfl
theorem strs_one (zs : List ByteArray) : ∀ u ∈ zs.map Value.string, u.oneCell' = true := by
  intro u hu
  obtain ⟨_, _, rfl⟩ := List.mem_map.1 hu
  rfl
theorem Src.below {w0 w : World} {p : Option Addr} {xs : List Value} (h : Src w0 p xs) (hb : Below w0.heap.size w0 w) : Src w p xs := by
  intro h0
  obtain ⟨b, o, rfl, hl, hc⟩ := h h0
  exact ⟨b, o, rfl, Nat.lt_of_lt_of_le hl hb.size, fun i v hv => old_cell hb (hc i v hv)⟩

/-- What a found column at place q of block fB holds. -/
structure FD (w : World) (fB q m : Nat) (ip sp np : Option Addr) (V : List Int) (S : List ByteArray) (N : List Bool) : Prop where
  ci : w.cell? ⟨fB, q + 1, none⟩ = some (.slice ip m m)
  cs : w.cell? ⟨fB, q + 2, none⟩ = some (.slice sp m m)
  cn : w.cell? ⟨fB, q + 3, none⟩ = some (.slice np m m)
  ch : w.cell? ⟨fB, q + 4, none⟩ = some (.bool (N.any id))
  si : Src w ip (V.map (Value.int .i64))
  ss : Src w sp (S.map Value.string)
  sn : Src w np (N.map Value.bool)
  li : V.length = m
  ls : S.length = m
  ln : N.length = m
theorem FD.below {w0 w : World} {fB q m : Nat} {ip sp np : Option Addr} {V : List Int} {S : List ByteArray} {N : List Bool} (h : FD w0 fB q m ip sp np V S N) (hb : Below w0.heap.size w0 w) : FD w fB q m ip sp np V S N where
  ci := old_cell hb h.ci
  cs := old_cell hb h.cs
  cn := old_cell hb h.cn
  ch := old_cell hb h.ch
  si := h.si.below hb
  ss := h.ss.below hb
  sn := h.sn.below hb
  li := h.li
  ls := h.ls
  ln := h.ln

set_option maxRecDepth 100000 in
set_option maxHeartbeats 800000 in
theorem ints54f (rB fB fcap q vB nB m c : Nat) (fp ip sp np : Option Addr) (cols : List Int) (V : List Int) (S : List ByteArray) (N : List Bool) (vs : List Int) (ns : List Bool) (tv tn : Value) (w0 w : World)
    (hR : w0.cell? ⟨rB, 4, none⟩ = some (.slice fp cols.length fcap)) (hF : ∀ i x, cols[i]? = some x → fp = some ⟨fB, 0, none⟩ ∧ w0.cell? ⟨fB, i * 5, none⟩ = some (.int .i64 x))
    (hD : FD w0 fB q m ip sp np V S N)
    (hcols : cols.length ≤ 1048576) (hyes : foundAt fB c 0 cols = some ⟨fB, q, none⟩)
    (hb : Below w0.heap.size w0 w) (hvB : w0.heap.size ≤ vB) (hnB : w0.heap.size ≤ nB) (hvn : vB ≠ nB)
    (hv : Blk w vB (vs.map (Value.int .i64) ++ [tv]) 2) (hn : Blk w nB (ns.map Value.bool ++ [tn]) 4) (lv : vs.length = m) (ln : ns.length = m) :
    Calls Try.prog 54 #[.pointer (some ⟨rB, 0, none⟩), .int .i64 c, .slice (some ⟨vB, 0, none⟩) (m + 1) (m + 1), .slice (some ⟨nB, 0, none⟩) (m + 1) (m + 1)] w (ReadOut w vB nB 2 (V.map (Value.int .i64)) N tv tn) := by
  have hneq : ∀ w, (binOp .neq 61 (.pointer (some ⟨fB, q, none⟩)) (.pointer none)).run Try.prog w = .ok (.bool true) w := fun w => by kernel_rfl
  have HF : Hid (Calls Try.prog 55 #[.pointer (some ⟨rB, 0, none⟩), .int .i64 c] w (Found w fB c cols)) :=
    foundOf55 rB fB fcap fp c cols w hcols (old_cell hb hR) (fun i x hx => ⟨(hF i x hx).1, old_cell hb (hF i x hx).2⟩)
  have HD := hD.below hb
  have c1 := HD.ci
  have c3 := HD.cn
  have c4 := HD.ch
  have li := hD.li
  have l3 := hD.ln
  clear hR hF
  go_enter Try.func54, Try.ntmps54
  go_wp2_with (first
    | (go_at_call 55; refine HF.out.mono ?_; rintro e w' ⟨rfl, rfl⟩; rw [hyes])
    | (refine wpList_copy_blk rfl (.tmp 22) (.tmp 26) 27 27 rfl 2 Try.underlying27 size2 _ _ _ _ _ _ rfl rfl vB _ 2 hv (V.map (Value.int .i64)) ?_ (fun _ => rfl) HD.si ?_ (ints_one _ _) ?_))
  · simp [li]
  · simp [li, lv]
  intro w1 hB1 hK1 hs1
  have hb1 := hK1.below hb hb.size (by simpa using hvB)
  have HD1 := hD.below hb1
  have c3 := HD1.cn
  have c4 := HD1.ch
  have hn1 := hK1.blk hn (by simpa using hvn.symm)
  clear HD
  go_wp2_with (refine wpList_copy_blk rfl (.tmp 28) (.tmp 32) 38 38 rfl 4 Try.underlying38 size4 _ _ _ _ _ _ rfl rfl nB _ 4 hn1 (N.map Value.bool) ?_ (fun _ => rfl) HD1.sn ?_ (bools_one _) ?_)
  · simp [l3]
  · simp [l3, ln]
  intro w2 hB2 hK2 hs2
  have hb2 := hK2.below hb1 hb1.size (by simpa using hnB)
  have c4 := (hD.below hb2).ch
  have hB12 := hK2.blk hB1 (by simpa using hvn)
  clear HD1
  go_wp2
  go_ret
  refine ⟨rfl, ?_, ?_, ?_⟩
  · simpa [li, lv, List.drop_append_of_le_length] using hB12
  · simpa [l3, ln, List.drop_append_of_le_length] using hB2
  · exact (hK1.mono (by simp; intros; simp_all)).then hK2 (by simp)
end Go.Proofs.Qxb6001672a
