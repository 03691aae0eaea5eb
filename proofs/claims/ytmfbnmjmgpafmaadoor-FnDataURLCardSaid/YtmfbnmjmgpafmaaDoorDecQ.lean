/- encoding/base64: decodeQuantum (46) at the last four signs. -/
import Derived.Test.YtmfbnmjmgpafmaaDoorDecA
import Derived.Handy
import Derived.Lib.SmallJoins
namespace Go.Proofs.YtmfbnmjmgpafmaaDoor
open Go.RowKit
set_option linter.unusedVariables false
set_option linter.unusedSimpArgs false
noncomputable def decCells : List Value := (List.range 256).map fun c => Value.int .u8 (dv c : Nat)
/-- An Encoding's second array, as one load reads it. -/
theorem dec_range {B : Nat} {w : World} (h : EncAt B w) : w.rangeAt B 64 decCells := by
  intro j v hv
  unfold decCells at hv
  rw [List.getElem?_map] at hv
  obtain ⟨d, hd, rfl⟩ := Option.map_eq_some_iff.1 hv
  rw [List.getElem?_eq_some_iff] at hd
  obtain ⟨h1, h2⟩ := hd
  simp at h1 h2
  subst h2
  exact h.dec j h1
theorem info67 : (Tryd.prog.info? 67).map (·.size) = some decCells.length := by
  have : (Tryd.prog.info? 67).map (·.size) = some 256 := by kernel_rfl
  rw [this]
  simp [decCells]
theorem or_zero (y : Nat) (h : y < 18446744073709551616) : bits .or .u64 (y : Int) 0 = (y : Int) := by
  rw [show (0 : Int) = ((0 : Nat) : Int) from rfl, u64_or_nat y 0 h (by omega), Nat.or_zero]
theorem Buf.putI {D : Nat} {l : List Nat} {W : World} (h : Buf D l W) (j b : Nat) (x : Int) (hx : x = (b : Int)) : Buf D (l.set j b) (W.setCell ⟨D, j, none⟩ (.int .u8 x)) := by
  subst hx
  exact h.put b
set_option maxRecDepth 1000000 in
set_option maxHeartbeats 8000000 in
theorem quantum3_any (B D S o dc sc s m y d0 d1 d2 d3 : Nat) (zk src : List Nat) (w : World) (hE : EncAt B w) (hS : Cel S src w) (hD : Buf D zk w) (hm : src.length = m) (hs : m = s + 4) (hm2 : m ≤ 100000)
    (h0 : d0 < 64) (h1 : d1 < 64) (h2 : d2 < 64) (h3 : d3 < 64) (g0 : src.getD (s) 0 = dg d0) (g1 : src.getD (s + 1) 0 = dg d1) (g2 : src.getD (s + 2) 0 = dg d2) (g3 : src.getD (s + 3) 0 = dg d3)
    (hz : o + 3 ≤ zk.length) (hdc : 3 ≤ dc) (hsc : m ≤ sc) (hBD : B < D) (hSD : S ≠ D) (hy : d0 * 262144 + d1 * 4096 + d2 * 64 + d3 = y) :
    Calls Tryd.prog 46 #[.pointer (some ⟨B, 0, none⟩), .slice (some ⟨D, o, none⟩) 3 dc, .slice (some ⟨S, 0, none⟩) m sc, .int .i64 (s : Int)] w fun e w' =>
      e = .returned (.tuple #[.int .i64 (m : Int), .int .i64 3, Value.nilIface]) ∧ Buf D (((zk.set (o + 2) (y % 256)).set (o + 1) (y / 256 % 256)).set (o) (y / 65536 % 256)) w' ∧ Below D w w' := by
  obtain ⟨b0, q0⟩ : ∃ b, dg d0 = b := ⟨_, rfl⟩
  obtain ⟨b1, q1⟩ : ∃ b, dg d1 = b := ⟨_, rfl⟩
  obtain ⟨b2, q2⟩ : ∃ b, dg d2 = b := ⟨_, rfl⟩
  obtain ⟨b3, q3⟩ : ∃ b, dg d3 = b := ⟨_, rfl⟩
  have p0 := dg_facts d0 h0
  have p1 := dg_facts d1 h1
  have p2 := dg_facts d2 h2
  have p3 := dg_facts d3 h3
  rw [q0] at p0 g0
  rw [q1] at p1 g1
  rw [q2] at p2 g2
  rw [q3] at p3 g3
  have e0 := hE.dec b0 (by omega)
  rw [p0.1] at e0
  have e1 := hE.dec b1 (by omega)
  rw [p1.1] at e1
  have e2 := hE.dec b2 (by omega)
  rw [p2.1] at e2
  have e3 := hE.dec b3 (by omega)
  rw [p3.1] at e3
  have c0 := hS.cell (j := s) (by omega)
  rw [g0] at c0
  have c1 := hS.cell (j := s + 1) (by omega)
  rw [g1] at c1
  have c2 := hS.cell (j := s + 2) (by omega)
  rw [g2] at c2
  have c3 := hS.cell (j := s + 3) (by omega)
  rw [g3] at c3
  have l0 : b0 < 256 := by omega
  have l1 : b1 < 256 := by omega
  have l2 : b2 < 256 := by omega
  have l3 : b3 < 256 := by omega
  have hlt := hD.lt
  have hBlt := hE.lt
  have hSlt := hS.lt
  have st := hE.strict
  have k0 := hD.cell (j := o) (by omega)
  have f0 := hD.free (o)
  have k1 := hD.cell (j := o + 1) (by omega)
  have f1 := hD.free (o + 1)
  have k2 := hD.cell (j := o + 2) (by omega)
  have f2 := hD.free (o + 2)
  generalize zk.getD (o) 0 = v0 at k0
  generalize zk.getD (o + 1) 0 = v1 at k1
  generalize zk.getD (o + 2) 0 = v2 at k2
  have t0 : ((m : Int) == (s : Int)) = false := beq_eq_false_iff_ne.2 (by omega)
  have t1 : ((m : Int) == (s : Int) + 1) = false := beq_eq_false_iff_ne.2 (by omega)
  have t2 : ((m : Int) == (s : Int) + 1 + 1) = false := beq_eq_false_iff_ne.2 (by omega)
  have t3 : ((m : Int) == (s : Int) + 1 + 1 + 1) = false := beq_eq_false_iff_ne.2 (by omega)
  have s0 : ((d0 : Int) != 255) = true := bne_iff_ne.2 (by omega)
  have s1 : ((d1 : Int) != 255) = true := bne_iff_ne.2 (by omega)
  have s2 : ((d2 : Int) != 255) = true := bne_iff_ne.2 (by omega)
  have s3 : ((d3 : Int) != 255) = true := bne_iff_ne.2 (by omega)
  have hDB : D ≠ B := by omega
  obtain ⟨y1, r1⟩ : ∃ z, d0 * 262144 + d1 * 4096 = z := ⟨_, rfl⟩
  have a1 := enc_or 18 d0 (d1 * 4096) y1 ((d0 : Int) * 262144) ((d1 : Int) * 4096) (by omega) (by omega) (by omega) (by omega) (by omega)
  obtain ⟨y2, r2⟩ : ∃ z, y1 + d2 * 64 = z := ⟨_, rfl⟩
  have a2 := enc_or 12 (d0 * 64 + d1) (d2 * 64) y2 (y1 : Int) ((d2 : Int) * 64) (by omega) (by omega) (by omega) (by omega) (by omega)
  have a3 := enc_or 6 (d0 * 4096 + d1 * 64 + d2) d3 y (y2 : Int) (d3 : Int) (by omega) (by omega) (by omega) (by omega) (by omega)
  have HE := Lib.hid hE
  have HS := Lib.hid hS
  have HD := Lib.hid hD
  have HM := Lib.hid hs
  have HY := Lib.hid hy
  have hsm : s + 4 ≤ m := by omega
  clear hE hS hD hm hs hy g0 g1 g2 g3 p0 q0 p1 q1 p2 q2 p3 q3 hBD r1 r2
  go_enter Tryd.func46, Tryd.ntmps46
  go_wp2_with (refine wpList_load_mid rfl 67 _ rfl B 64 rfl decCells _ (dec_range (HE.out.alloc _)) Tryd.underlying67 rfl info67 ?_; go_simp)
  go_rounds 5
  go_returns
  have hm := HM.out
  refine ⟨?_, ?_, ?_⟩
  · rw [show (m : Int) = (s : Int) + 1 + 1 + 1 + 1 by omega]; rfl
  · exact (((HD.out.putI (o + 2) (y % 256) ((y : Int) % 256) (by omega)).putI (o + 1) (y / 256 % 256) ((y : Int) / 256 % 256) (by omega)).putI (o) (y / 65536 % 256) ((y : Int) / 65536 % 256) (by omega)).alloc _
  · exact ((((Below.refl D w).setCell (Nat.le_refl D) _).setCell (Nat.le_refl D) _).setCell (Nat.le_refl D) _).alloc (by simp only [World.size_setCell]; omega) _
set_option maxRecDepth 1000000 in
set_option maxHeartbeats 8000000 in
theorem quantum2_any (B D S o dc sc s m y d0 d1 d2 : Nat) (zk src : List Nat) (w : World) (hE : EncAt B w) (hS : Cel S src w) (hD : Buf D zk w) (hm : src.length = m) (hs : m = s + 4) (hm2 : m ≤ 100000)
    (h0 : d0 < 64) (h1 : d1 < 64) (h2 : d2 < 64) (g0 : src.getD (s) 0 = dg d0) (g1 : src.getD (s + 1) 0 = dg d1) (g2 : src.getD (s + 2) 0 = dg d2) (g3 : src.getD (s + 3) 0 = 61)
    (hz : o + 3 ≤ zk.length) (hdc : 3 ≤ dc) (hsc : m ≤ sc) (hBD : B < D) (hSD : S ≠ D) (hy : d0 * 262144 + d1 * 4096 + d2 * 64 = y) :
    Calls Tryd.prog 46 #[.pointer (some ⟨B, 0, none⟩), .slice (some ⟨D, o, none⟩) 3 dc, .slice (some ⟨S, 0, none⟩) m sc, .int .i64 (s : Int)] w fun e w' =>
      e = .returned (.tuple #[.int .i64 (m : Int), .int .i64 2, Value.nilIface]) ∧ Buf D ((zk.set (o + 1) (y / 256 % 256)).set (o) (y / 65536 % 256)) w' ∧ Below D w w' := by
  obtain ⟨b0, q0⟩ : ∃ b, dg d0 = b := ⟨_, rfl⟩
  obtain ⟨b1, q1⟩ : ∃ b, dg d1 = b := ⟨_, rfl⟩
  obtain ⟨b2, q2⟩ : ∃ b, dg d2 = b := ⟨_, rfl⟩
  have p0 := dg_facts d0 h0
  have p1 := dg_facts d1 h1
  have p2 := dg_facts d2 h2
  rw [q0] at p0 g0
  rw [q1] at p1 g1
  rw [q2] at p2 g2
  have e0 := hE.dec b0 (by omega)
  rw [p0.1] at e0
  have e1 := hE.dec b1 (by omega)
  rw [p1.1] at e1
  have e2 := hE.dec b2 (by omega)
  rw [p2.1] at e2
  have e61 : w.cell? ⟨B, 125, none⟩ = some (.int .u8 255) := hE.dec 61 (by omega)
  have pad := hE.pad
  have c0 := hS.cell (j := s) (by omega)
  rw [g0] at c0
  have c1 := hS.cell (j := s + 1) (by omega)
  rw [g1] at c1
  have c2 := hS.cell (j := s + 2) (by omega)
  rw [g2] at c2
  have c3 := hS.cell (j := s + 3) (by omega)
  rw [g3] at c3
  have l0 : b0 < 256 := by omega
  have l1 : b1 < 256 := by omega
  have l2 : b2 < 256 := by omega
  have hlt := hD.lt
  have hBlt := hE.lt
  have hSlt := hS.lt
  have st := hE.strict
  have k0 := hD.cell (j := o) (by omega)
  have f0 := hD.free (o)
  have k1 := hD.cell (j := o + 1) (by omega)
  have f1 := hD.free (o + 1)
  have k2 := hD.cell (j := o + 2) (by omega)
  have f2 := hD.free (o + 2)
  generalize zk.getD (o) 0 = v0 at k0
  generalize zk.getD (o + 1) 0 = v1 at k1
  generalize zk.getD (o + 2) 0 = v2 at k2
  have t0 : ((m : Int) == (s : Int)) = false := beq_eq_false_iff_ne.2 (by omega)
  have t1 : ((m : Int) == (s : Int) + 1) = false := beq_eq_false_iff_ne.2 (by omega)
  have t2 : ((m : Int) == (s : Int) + 1 + 1) = false := beq_eq_false_iff_ne.2 (by omega)
  have t3 : ((m : Int) == (s : Int) + 1 + 1 + 1) = false := beq_eq_false_iff_ne.2 (by omega)
  have t4 : decide ((s : Int) + 1 + 1 + 1 + 1 < (m : Int)) = false := decide_eq_false (by omega)
  have s0 : ((d0 : Int) != 255) = true := bne_iff_ne.2 (by omega)
  have s1 : ((d1 : Int) != 255) = true := bne_iff_ne.2 (by omega)
  have s2 : ((d2 : Int) != 255) = true := bne_iff_ne.2 (by omega)
  have hDB : D ≠ B := by omega
  obtain ⟨y1, r1⟩ : ∃ z, d0 * 262144 + d1 * 4096 = z := ⟨_, rfl⟩
  have a1 := enc_or 18 d0 (d1 * 4096) y1 ((d0 : Int) * 262144) ((d1 : Int) * 4096) (by omega) (by omega) (by omega) (by omega) (by omega)
  obtain ⟨y2, r2⟩ : ∃ z, y1 + d2 * 64 = z := ⟨_, rfl⟩
  have a2 := enc_or 12 (d0 * 64 + d1) (d2 * 64) y2 (y1 : Int) ((d2 : Int) * 64) (by omega) (by omega) (by omega) (by omega) (by omega)
  have a3 : bits .or .u64 (y2 : Int) 0 = (y : Int) := by rw [or_zero y2 (by omega)]; omega
  have HE := Lib.hid hE
  have HS := Lib.hid hS
  have HD := Lib.hid hD
  have HM := Lib.hid hs
  have HY := Lib.hid hy
  have hsm : s + 4 ≤ m := by omega
  clear hE hS hD hm hs hy g0 g1 g2 g3 p0 q0 p1 q1 p2 q2 hBD r1 r2
  go_enter Tryd.func46, Tryd.ntmps46
  go_wp2_with (refine wpList_load_mid rfl 67 _ rfl B 64 rfl decCells _ (dec_range (HE.out.alloc _)) Tryd.underlying67 rfl info67 ?_; go_simp)
  go_rounds 5
  go_rounds 1
  go_returns
  have hm := HM.out
  refine ⟨?_, ?_, ?_⟩
  · rw [show (m : Int) = (s : Int) + 1 + 1 + 1 + 1 by omega]; rfl
  · exact ((HD.out.putI (o + 1) (y / 256 % 256) ((y : Int) / 256 % 256) (by omega)).putI (o) (y / 65536 % 256) ((y : Int) / 65536 % 256) (by omega)).alloc _
  · exact (((Below.refl D w).setCell (Nat.le_refl D) _).setCell (Nat.le_refl D) _).alloc (by simp only [World.size_setCell]; omega) _
set_option maxRecDepth 1000000 in
set_option maxHeartbeats 8000000 in
theorem quantum1_any (B D S o dc sc s m y d0 d1 : Nat) (zk src : List Nat) (w : World) (hE : EncAt B w) (hS : Cel S src w) (hD : Buf D zk w) (hm : src.length = m) (hs : m = s + 4) (hm2 : m ≤ 100000)
    (h0 : d0 < 64) (h1 : d1 < 64) (g0 : src.getD (s) 0 = dg d0) (g1 : src.getD (s + 1) 0 = dg d1) (g2 : src.getD (s + 2) 0 = 61) (g3 : src.getD (s + 3) 0 = 61)
    (hz : o + 3 ≤ zk.length) (hdc : 3 ≤ dc) (hsc : m ≤ sc) (hBD : B < D) (hSD : S ≠ D) (hy : d0 * 262144 + d1 * 4096 = y) :
    Calls Tryd.prog 46 #[.pointer (some ⟨B, 0, none⟩), .slice (some ⟨D, o, none⟩) 3 dc, .slice (some ⟨S, 0, none⟩) m sc, .int .i64 (s : Int)] w fun e w' =>
      e = .returned (.tuple #[.int .i64 (m : Int), .int .i64 1, Value.nilIface]) ∧ Buf D (zk.set (o) (y / 65536 % 256)) w' ∧ Below D w w' := by
  obtain ⟨b0, q0⟩ : ∃ b, dg d0 = b := ⟨_, rfl⟩
  obtain ⟨b1, q1⟩ : ∃ b, dg d1 = b := ⟨_, rfl⟩
  have p0 := dg_facts d0 h0
  have p1 := dg_facts d1 h1
  rw [q0] at p0 g0
  rw [q1] at p1 g1
  have e0 := hE.dec b0 (by omega)
  rw [p0.1] at e0
  have e1 := hE.dec b1 (by omega)
  rw [p1.1] at e1
  have e61 : w.cell? ⟨B, 125, none⟩ = some (.int .u8 255) := hE.dec 61 (by omega)
  have pad := hE.pad
  have c0 := hS.cell (j := s) (by omega)
  rw [g0] at c0
  have c1 := hS.cell (j := s + 1) (by omega)
  rw [g1] at c1
  have c2 := hS.cell (j := s + 2) (by omega)
  rw [g2] at c2
  have c3 := hS.cell (j := s + 3) (by omega)
  rw [g3] at c3
  have l0 : b0 < 256 := by omega
  have l1 : b1 < 256 := by omega
  have hlt := hD.lt
  have hBlt := hE.lt
  have hSlt := hS.lt
  have st := hE.strict
  have k0 := hD.cell (j := o) (by omega)
  have f0 := hD.free (o)
  have k1 := hD.cell (j := o + 1) (by omega)
  have f1 := hD.free (o + 1)
  have k2 := hD.cell (j := o + 2) (by omega)
  have f2 := hD.free (o + 2)
  generalize zk.getD (o) 0 = v0 at k0
  generalize zk.getD (o + 1) 0 = v1 at k1
  generalize zk.getD (o + 2) 0 = v2 at k2
  have t0 : ((m : Int) == (s : Int)) = false := beq_eq_false_iff_ne.2 (by omega)
  have t1 : ((m : Int) == (s : Int) + 1) = false := beq_eq_false_iff_ne.2 (by omega)
  have t2 : ((m : Int) == (s : Int) + 1 + 1) = false := beq_eq_false_iff_ne.2 (by omega)
  have t3 : ((m : Int) == (s : Int) + 1 + 1 + 1) = false := beq_eq_false_iff_ne.2 (by omega)
  have t4 : decide ((s : Int) + 1 + 1 + 1 + 1 < (m : Int)) = false := decide_eq_false (by omega)
  have t5 : decide ((s : Int) + 1 + 1 + 1 < (m : Int)) = true := decide_eq_true (by omega)
  have t6 : ((s : Int) + 1 + 1 + 1 == (m : Int)) = false := beq_eq_false_iff_ne.2 (by omega)
  have s0 : ((d0 : Int) != 255) = true := bne_iff_ne.2 (by omega)
  have s1 : ((d1 : Int) != 255) = true := bne_iff_ne.2 (by omega)
  have hDB : D ≠ B := by omega
  obtain ⟨y1, r1⟩ : ∃ z, d0 * 262144 + d1 * 4096 = z := ⟨_, rfl⟩
  have a1 := enc_or 18 d0 (d1 * 4096) y1 ((d0 : Int) * 262144) ((d1 : Int) * 4096) (by omega) (by omega) (by omega) (by omega) (by omega)
  have a2 : bits .or .u64 (y1 : Int) 0 = (y : Int) := by rw [or_zero y1 (by omega)]; omega
  have a3 := or_zero y (by omega)
  have HE := Lib.hid hE
  have HS := Lib.hid hS
  have HD := Lib.hid hD
  have HM := Lib.hid hs
  have HY := Lib.hid hy
  have hsm : s + 4 ≤ m := by omega
  clear hE hS hD hm hs hy g0 g1 g2 g3 p0 q0 p1 q1 hBD r1
  go_enter Tryd.func46, Tryd.ntmps46
  go_wp2_with (refine wpList_load_mid rfl 67 _ rfl B 64 rfl decCells _ (dec_range (HE.out.alloc _)) Tryd.underlying67 rfl info67 ?_; go_simp)
  go_rounds 5
  go_rounds 1
  go_quiet (fail)
  obtain ⟨w1, hw1⟩ : ∃ w1, w.drewN nq = w1 := ⟨_, rfl⟩
  have hd : ∀ o, (w.alloc o).drewN nq = w1.alloc o := fun o => by rw [← hw1]; rfl
  have hN : w.heap.size = w1.heap.size := by rw [← hw1]; rfl
  have hcl : ∀ a, w.cell? a = w1.cell? a := fun a => by rw [← hw1]; rfl
  have hfr : ∀ a, w.frozen? a = w1.frozen? a := fun a => by rw [← hw1]; rfl
  have HD1 : Hid (Buf D zk w1) := Lib.hid (by rw [← hw1]; exact HD.out)
  have HL1 : Hid (Below D w w1) := Lib.hid (by rw [← hw1]; exact Joins.below_draws D w nq)
  rw [hd, hN]
  rw [hcl] at e0 e1 e61 pad c0 c1 c2 c3 st k0 k1 k2
  rw [hfr] at f0 f1 f2
  rw [hN] at hlt hBlt hSlt
  clear hd hcl hfr hN hw1
  go_wp2
  go_rounds 1
  go_returns
  have hm := HM.out
  refine ⟨?_, ?_, ?_⟩
  · rw [show (m : Int) = (s : Int) + 1 + 1 + 1 + 1 by omega]; rfl
  · exact (HD1.out.putI (o) (y / 65536 % 256) ((y : Int) / 65536 % 256) (by omega)).alloc _
  · exact (HL1.out.setCell (Nat.le_refl D) _).alloc (by simp only [World.size_setCell]; omega) _
end Go.Proofs.YtmfbnmjmgpafmaaDoor
