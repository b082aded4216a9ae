/-
  FnEmptiedHoldsNoRows (8): from the emptying on (region 32).
-/
import Derived.Test.Qxb6001672aEmC
set_option linter.unusedSimpArgs false
set_option linter.unusedVariables false
namespace Go.Proofs.Qxb6001672a
open Go.RowKit

def RetT (w : World) (e : Ending) (w' : World) : Prop := e = .returned (.bool true) ∧ Below w.heap.size w w'
theorem lowB {A B : Nat} {u v : World} (h : Below B u v) (hA : A ≤ B) : Below A u v := ⟨h.os, h.tape, h.output, h.size, fun k hk => h.block k (by omega)⟩
theorem Src.below {B : Nat} {u v : World} {p : Option Addr} {xs : List Value} (h : Src u p xs) (k : Below B u v) (hp : 0 < xs.length → ∀ a, p = some a → a.block < B) : Src v p xs := by
  intro h0
  obtain ⟨b, o, rfl, hb, hc⟩ := h h0
  exact ⟨b, o, rfl, Nat.lt_of_lt_of_le hb k.size, fun i x hx => (World.cell?_of_block (w := u) (a := ⟨b, o + i, none⟩) (k.block b (hp h0 _ rfl))).trans (hc i x hx)⟩

theorem Src.kp' {S : List Nat} {w w' : World} {p : Option Addr} {xs : List Value} (h : Src w p xs) (k : Kp S w w') (hS : 0 < xs.length → ∀ a, p = some a → a.block ∉ S) : Src w' p xs := fun h0 => h.kp k (hS h0) h0

/-- The emptied batch may be emptied again. -/
theorem EmO.again {w v : World} {B U rB nf nw nt nr cw ct cr cf g eB : Nat} {x0 : Value} {pw pt pr pf : Option Addr} (h : RO w B U rB g nf nw nt nr cw ct cr cf x0 pw pt pr pf) {p1 p2 p3 : Option Addr} {q1 q2 q3 : Nat}
    (o1 : p1 = pw ∧ q1 = cw ∨ p1 = none ∧ q1 = 0) (o2 : p2 = pt ∧ q2 = ct ∨ p2 = none ∧ q2 = 0) (o3 : p3 = pr ∧ q3 = cr ∨ p3 = none ∧ q3 = 0) (m1 : Rm v 53 p1 q1) (m2 : Rm v 48 p2 q2) (m3 : Rm v 9 p3 q3)
    (hb : Blk v eB [.pointer none, .slice p1 0 q1, .slice p2 0 q2, .slice p3 0 q3, .slice pf 0 cf] 67) (he : U ≤ eB) : RO v B U eB g 0 0 0 0 q1 q2 q3 cf (.pointer none) p1 p2 p3 pf := by
  have hl := hb.lt
  refine ⟨hb, h.hB, by omega, m1, m2, m3, fun a ha => ?_, fun a ha => ?_, fun a ha => ?_, fun hp => ?_, fun hp => ?_, fun hp => ?_, Nat.zero_le _, Nat.zero_le _, Nat.zero_le _, Nat.zero_le _, ?_, ?_, ?_, by omega, h.zf, fun h0 => by omega⟩
  · rcases o1 with ⟨rfl, rfl⟩ | ⟨rfl, rfl⟩
    · have := h.q1 a ha; omega
    · cases ha
  · rcases o2 with ⟨rfl, rfl⟩ | ⟨rfl, rfl⟩
    · have := h.q2 a ha; omega
    · cases ha
  · rcases o3 with ⟨rfl, rfl⟩ | ⟨rfl, rfl⟩
    · have := h.q3 a ha; omega
    · cases ha
  · rcases o1 with ⟨rfl, rfl⟩ | ⟨rfl, rfl⟩
    · exact h.z1 hp
    · rfl
  · rcases o2 with ⟨rfl, rfl⟩ | ⟨rfl, rfl⟩
    · exact h.z2 hp
    · rfl
  · rcases o3 with ⟨rfl, rfl⟩ | ⟨rfl, rfl⟩
    · exact h.z3 hp
    · rfl
  · rcases o1 with ⟨rfl, rfl⟩ | ⟨rfl, rfl⟩
    · exact h.s1
    · omega
  · rcases o2 with ⟨rfl, rfl⟩ | ⟨rfl, rfl⟩
    · exact h.s2
    · omega
  · rcases o3 with ⟨rfl, rfl⟩ | ⟨rfl, rfl⟩
    · exact h.s3
    · omega

set_option maxRecDepth 1000000 in
set_option maxHeartbeats 2000000 in
theorem emP1 (n cfa B U rB g nf nw nt nr cw ct cr cf : Nat) (probe : Int) (x0 : Value) (fq pw pt pr pf : Option Addr) (fa : List Int) (w0 u : World) (u0 u1 u4 u5 u6 u7 u8 u9 u10 u11 u12 u13 u15 u16 u17 u18 u19 u20 u21 u22 u23 u24 u25 u26 u27 u28 u29 u30 u31 u32 u33 u34 u35 u36 u37 u38 u39 u40 u41 u42 u43 u44 u45 u46 u47 u48 u49 u50 u51 u52 u53 u54 u55 u56 u57 u58 u59 u60 u61 u62 u63 u64 u65 u66 u67 u68 u69 u70 u71 u72 u73 u74 u75 u76 u77 u78 u79 u80 u81 u82 u83 u84 u85 u86 u87 u88 u89 u90 u91 u92 u93 u94 u95 u96 u97 u98 u99 u100 u101 u102 u103 u104 u105 u106 u107 u108 u109 u110 u111 u112 u113 u114 u115 u116 u117 u118 u119 u120 u121 u122 u123 u124 u125 u126 u127 u128 u129 u130 u131 u132 u133 u134 : Value)
    (hO : RO u B U rB g nf nw nt nr cw ct cr cf x0 pw pt pr pf) (hfa : Src u fq (fa.map (Value.int .i64))) (lfa : fa.length = n) (hn : n ≤ 1024) (hfb : 0 < n → ∀ a, fq = some a → a.block < B) (hw : Below w0.heap.size w0 u) (hw0 : w0.heap.size ≤ B)
    (K : Act → World → Prop) (hK : ∀ a w', Code.wp Try.prog (restOf2 32 Try.f8) (bodyPost Try.prog Try.f8 (RetT w0)) a w' → K a w') :
    Code.wp Try.prog (headOf2 32 Try.f8) (Exit.then K (bodyPost Try.prog Try.f8 (RetT w0))) ⟨#[u0, u1, .slice fq n cfa, .int .i64 probe, u4, u5, u6, u7, u8, u9, u10, u11, u12, u13, .pointer (some ⟨rB, 0, none⟩), u15, u16, u17, u18, u19, u20, u21, u22, u23, u24, u25, u26, u27, u28, u29, u30, u31, u32, u33, u34, u35, u36, u37, u38, u39, u40, u41, u42, u43, u44, u45, u46, u47, u48, u49, u50, u51, u52, u53, u54, u55, u56, u57, u58, u59, u60, u61, u62, u63, u64, u65, u66, u67, u68, u69, u70, u71, u72, u73, u74, u75, u76, u77, u78, u79, u80, u81, u82, u83, u84, u85, u86, u87, u88, u89, u90, u91, u92, u93, u94, u95, u96, u97, u98, u99, u100, u101, u102, u103, u104, u105, u106, u107, u108, u109, u110, u111, u112, u113, u114, u115, u116, u117, u118, u119, u120, u121, u122, u123, u124, u125, u126, u127, u128, u129, u130, u131, u132, u133, u134], []⟩ u := by
  conv at hK => enter [a, w', 1, 2]; whnf
  conv => arg 2; whnf
  have C := hide (em36 hO)
  have HO := hide hO
  have HFA := hide hfa
  have HL := hide lfa
  have HFB := hide hfb
  have HW := hide hw
  clear hO hfa lfa hfb hw
  go_wp2_with fail
  refine (unhide C).mono ?_
  clear C
  rintro e v ⟨p1, p2, p3, q1, q2, q3, rfl, o1, o2, o3, m1, m2, m3, bel, hi⟩
  have FA := hide ((unhide HFA).below bel (fun h0 => (unhide HFB) (by simpa [unhide HL] using h0)))
  have BW := hide ((unhide HW).trans (lowB bel hw0))
  have hvs : u.heap.size ≤ v.heap.size := bel.size
  have hUs := (unhide HO).hU
  have O1 := hide o1
  have O2 := hide o2
  have O3 := hide o3
  have M1 := hide m1
  have M2 := hide m2
  have M3 := hide m3
  clear o1 o2 o3 m1 m2 m3 bel hi HFA HW
  simp only []
  obtain ⟨v1, hv1⟩ : ∃ v1, v1 = v.alloc (.cells #[.pointer none, .slice p1 0 q1, .slice p2 0 q2, .slice p3 0 q3, .slice pf 0 cf] 67) := ⟨_, rfl⟩
  obtain ⟨eB, heB⟩ : ∃ eB, eB = v.heap.size := ⟨_, rfl⟩
  have kv : Kp [] v v1 := by rw [hv1]; exact (Kp.refl _ _).alloc _
  have be : Blk v1 eB [.pointer none, .slice p1 0 q1, .slice p2 0 q2, .slice p3 0 q3, .slice pf 0 cf] 67 := by rw [hv1, heB]; exact Blk.new v _ _
  have BE := hide be
  have KV := hide kv
  have C := hide (noR37 eB (.pointer none) p1 p2 p3 pf q1 q2 q3 cf v1 be)
  have HV := hide hv1
  have HEB := hide heB
  clear kv be hv1 heB
  go_wp2_with fail
  rw [← unhide HV, ← unhide HEB]
  refine (unhide C).mono ?_
  clear C HV
  rintro e x ⟨rfl, kx⟩
  have FX := hide (((unhide FA).keep (unhide KV)).keep kx)
  have BX := hide (kx.blk (unhide BE) (by simp))
  have RX := hide (EmO.again (unhide HO) (unhide O1) (unhide O2) (unhide O3) ((((unhide M1).shp (Shp.keep (unhide KV))).shp (Shp.keep kx))) ((((unhide M2).shp (Shp.keep (unhide KV))).shp (Shp.keep kx))) ((((unhide M3).shp (Shp.keep (unhide KV))).shp (Shp.keep kx))) (unhide BX) (by have := unhide HEB; omega))
  have WX := hide ((unhide BW).trans (⟨((unhide KV).trans kx).os, ((unhide KV).trans kx).tape, ((unhide KV).trans kx).output, ((unhide KV).trans kx).size, fun i hi => ((unhide KV).trans kx).block i (by have := (unhide BW).size; omega) (by simp)⟩ : Below w0.heap.size v x))
  have FO : Hid (∀ c : Int, Calls Try.prog 34 #[.pointer (some ⟨eB, 0, none⟩), .int .i64 c] x (Found x 0 c [])) := fun c =>
    foundOf34 eB 0 cf pf c [] x (by simp) ((unhide BX).cell rfl) (fun i y h => by simp at h)
  clear kx FA BE KV BW O1 O2 O3 M1 M2 M3 HO HFB hvs hUs HEB
  simp only []
  go_wp2
  go_loop [18] (fun i => ∃ k : Nat, k ≤ n ∧ i = .int .i64 k) (fun i => n - (intOf i).toNat)
  case atStart => exact ⟨0, Nat.zero_le _, rfl⟩
  case round =>
    obtain ⟨k, hk, rfl⟩ := hrel
    by_cases hlt : k < n
    · obtain ⟨y, hy⟩ := getElem?_lt_some fa k (by have := unhide HL; omega)
      obtain ⟨b, o, rfl, _, hc⟩ := (unhide FX) (by simp [unhide HL]; omega)
      have c1 : x.cell? ⟨b, o + k, none⟩ = some (.int .i64 y) := hc _ _ (by simp [hy])
      have i1 : (k : Int) < (n : Int) := by omega
      clear hc hy
      go_wp2_with fail
      refine ((unhide FO) y).mono ?_
      rintro e x' ⟨hx', rfl⟩
      have hx' := hx'.symm
      subst hx'
      simp only [foundAt]
      go_wp2
      go_round
      case rel => exact ⟨k + 1, by omega, by go_num⟩
      case measure => simp [intOf]; omega
    · go_wp2_with fail
      refine ((unhide FO) probe).mono ?_
      rintro e x' ⟨hx', rfl⟩
      have hx' := hx'.symm
      subst hx'
      simp only [foundAt]
      have C := hide (em36 (unhide RX))
      go_wp2_with fail
      refine (unhide C).mono ?_
      clear C
      rintro e y ⟨s1, s2, s3, t1, t2, t3, rfl, _, _, _, _, _, _, bel, _⟩
      have WY := hide ((unhide WX).trans (lowB bel hw0))
      have kv : Kp [] y (y.alloc (.cells #[.pointer none, .slice s1 0 t1, .slice s2 0 t2, .slice s3 0 t3, .slice pf 0 cf] 67)) := (Kp.refl _ _).alloc _
      have C := hide (noR37 y.heap.size (.pointer none) s1 s2 s3 pf t1 t2 t3 cf _ (Blk.new y #[.pointer none, .slice s1 0 t1, .slice s2 0 t2, .slice s3 0 t3, .slice pf 0 cf] 67))
      have KV := hide kv
      clear kv bel
      simp only []
      go_wp2_with fail
      refine (unhide C).mono ?_
      clear C
      rintro e z ⟨rfl, kz⟩
      have WZ := hide ((unhide WY).trans (⟨((unhide KV).trans kz).os, ((unhide KV).trans kz).tape, ((unhide KV).trans kz).output, ((unhide KV).trans kz).size, fun i hi => ((unhide KV).trans kz).block i (by have := (unhide WY).size; omega) (by simp)⟩ : Below w0.heap.size y z))
      clear kz KV
      simp only []
      go_wp2
      go_ret
      exact ⟨rfl, unhide WZ⟩
end Go.Proofs.Qxb6001672a
