/- encoding/base64: assemble64 (44), assemble32 (47); internal/byteorder: BEPutUint64 (45), BEPutUint32 (48). -/
import Derived.Test.YtmfbnmjmgpafmaaDoorEncB
namespace Go.Proofs.YtmfbnmjmgpafmaaDoor
open Go.RowKit
set_option linter.unusedVariables false
set_option linter.unusedSimpArgs false
theorem or_u8 (a b : Nat) (ha : a < 64) (hb : b < 64) : ∃ c : Nat, c < 64 ∧ bits .or .u8 (a : Int) (b : Int) = (c : Int) :=
  ⟨a ||| b, Nat.or_lt_two_pow (n := 6) ha hb, u8_or_nat a b (by omega) (by omega)⟩
theorem dec_or_u32 (i x b y : Nat) (X Y : Int) (hX : X = ((2 ^ i * x : Nat) : Int)) (hY : Y = (b : Int)) (hx : 2 ^ i * x + b < 4294967296) (hb : b < 2 ^ i) (hy : 2 ^ i * x + b = y) : bits .or .u32 X Y = (y : Int) := by
  subst hX hY
  rw [u32_or_nat _ _ (by omega) (by omega), ← Nat.two_pow_add_eq_or_of_lt hb, hy]
theorem dec_or_u64 (i x b y : Nat) (X Y : Int) (hX : X = ((2 ^ i * x : Nat) : Int)) (hY : Y = (b : Int)) (hx : 2 ^ i * x + b < 18446744073709551616) (hb : b < 2 ^ i) (hy : 2 ^ i * x + b = y) : bits .or .u64 X Y = (y : Int) := enc_or i x b y X Y hX hY hx hb hy
set_option maxRecDepth 1000000 in
set_option maxHeartbeats 8000000 in
theorem assemble32_any (d0 d1 d2 d3 v : Nat) (w : World) (h0 : d0 < 64) (h1 : d1 < 64) (h2 : d2 < 64) (h3 : d3 < 64) (hv : d0 * 67108864 + d1 * 1048576 + d2 * 16384 + d3 * 256 = v) :
    Calls Tryd.prog 47 #[.int .u8 (d0 : Int), .int .u8 (d1 : Int), .int .u8 (d2 : Int), .int .u8 (d3 : Int)] w fun e w' => e = .returned (.tuple #[.int .u32 (v : Int), .bool true]) ∧ w' = w := by
  obtain ⟨c1, l1, o1⟩ := or_u8 d0 d1 h0 h1
  obtain ⟨c2, l2, o2⟩ := or_u8 c1 d2 l1 h2
  obtain ⟨c3, l3, o3⟩ := or_u8 c2 d3 l2 h3
  have t1 : ((c3 : Int) == 255) = false := beq_eq_false_iff_ne.2 (by omega)
  obtain ⟨x1, hx1⟩ : ∃ x, d0 * 64 + d1 = x := ⟨_, rfl⟩
  obtain ⟨y1, hy1⟩ : ∃ y, y = x1 * 1048576 := ⟨_, rfl⟩
  have a1 := dec_or_u32 26 d0 (d1 * 1048576) y1 ((d0 : Int) * 67108864) ((d1 : Int) * 1048576) (by omega) (by omega) (by omega) (by omega) (by omega)
  obtain ⟨x2, hx2⟩ : ∃ x, x1 * 64 + d2 = x := ⟨_, rfl⟩
  obtain ⟨y2, hy2⟩ : ∃ y, y = x2 * 16384 := ⟨_, rfl⟩
  have a2 := dec_or_u32 20 x1 (d2 * 16384) y2 (y1 : Int) ((d2 : Int) * 16384) (by omega) (by omega) (by omega) (by omega) (by omega)
  obtain ⟨x3, hx3⟩ : ∃ x, x2 * 64 + d3 = x := ⟨_, rfl⟩
  obtain ⟨y3, hy3⟩ : ∃ y, y = x3 * 256 := ⟨_, rfl⟩
  have a3 := dec_or_u32 14 x2 (d3 * 256) y3 (y2 : Int) ((d3 : Int) * 256) (by omega) (by omega) (by omega) (by omega) (by omega)
  have HV : Hid (y3 = v) := Lib.hid (by omega)
  clear hv hx1 hy1 hx2 hy2 hx3 hy3
  go_enter Tryd.func47, Tryd.ntmps47
  go_wp2_with fail
  go_returns
  have hv := HV.out
  subst hv
  exact ⟨rfl, rfl⟩
set_option maxRecDepth 1000000 in
set_option maxHeartbeats 8000000 in
theorem assemble64_any (d0 d1 d2 d3 d4 d5 d6 d7 v : Nat) (w : World) (h0 : d0 < 64) (h1 : d1 < 64) (h2 : d2 < 64) (h3 : d3 < 64) (h4 : d4 < 64) (h5 : d5 < 64) (h6 : d6 < 64) (h7 : d7 < 64) (hv : d0 * 288230376151711744 + d1 * 4503599627370496 + d2 * 70368744177664 + d3 * 1099511627776 + d4 * 17179869184 + d5 * 268435456 + d6 * 4194304 + d7 * 65536 = v) :
    Calls Tryd.prog 44 #[.int .u8 (d0 : Int), .int .u8 (d1 : Int), .int .u8 (d2 : Int), .int .u8 (d3 : Int), .int .u8 (d4 : Int), .int .u8 (d5 : Int), .int .u8 (d6 : Int), .int .u8 (d7 : Int)] w fun e w' => e = .returned (.tuple #[.int .u64 (v : Int), .bool true]) ∧ w' = w := by
  obtain ⟨c1, l1, o1⟩ := or_u8 d0 d1 h0 h1
  obtain ⟨c2, l2, o2⟩ := or_u8 c1 d2 l1 h2
  obtain ⟨c3, l3, o3⟩ := or_u8 c2 d3 l2 h3
  obtain ⟨c4, l4, o4⟩ := or_u8 c3 d4 l3 h4
  obtain ⟨c5, l5, o5⟩ := or_u8 c4 d5 l4 h5
  obtain ⟨c6, l6, o6⟩ := or_u8 c5 d6 l5 h6
  obtain ⟨c7, l7, o7⟩ := or_u8 c6 d7 l6 h7
  have t1 : ((c7 : Int) == 255) = false := beq_eq_false_iff_ne.2 (by omega)
  obtain ⟨x1, hx1⟩ : ∃ x, d0 * 64 + d1 = x := ⟨_, rfl⟩
  obtain ⟨y1, hy1⟩ : ∃ y, y = x1 * 4503599627370496 := ⟨_, rfl⟩
  have a1 := dec_or_u64 58 d0 (d1 * 4503599627370496) y1 ((d0 : Int) * 288230376151711744) ((d1 : Int) * 4503599627370496) (by omega) (by omega) (by omega) (by omega) (by omega)
  obtain ⟨x2, hx2⟩ : ∃ x, x1 * 64 + d2 = x := ⟨_, rfl⟩
  obtain ⟨y2, hy2⟩ : ∃ y, y = x2 * 70368744177664 := ⟨_, rfl⟩
  have a2 := dec_or_u64 52 x1 (d2 * 70368744177664) y2 (y1 : Int) ((d2 : Int) * 70368744177664) (by omega) (by omega) (by omega) (by omega) (by omega)
  obtain ⟨x3, hx3⟩ : ∃ x, x2 * 64 + d3 = x := ⟨_, rfl⟩
  obtain ⟨y3, hy3⟩ : ∃ y, y = x3 * 1099511627776 := ⟨_, rfl⟩
  have a3 := dec_or_u64 46 x2 (d3 * 1099511627776) y3 (y2 : Int) ((d3 : Int) * 1099511627776) (by omega) (by omega) (by omega) (by omega) (by omega)
  obtain ⟨x4, hx4⟩ : ∃ x, x3 * 64 + d4 = x := ⟨_, rfl⟩
  obtain ⟨y4, hy4⟩ : ∃ y, y = x4 * 17179869184 := ⟨_, rfl⟩
  have a4 := dec_or_u64 40 x3 (d4 * 17179869184) y4 (y3 : Int) ((d4 : Int) * 17179869184) (by omega) (by omega) (by omega) (by omega) (by omega)
  obtain ⟨x5, hx5⟩ : ∃ x, x4 * 64 + d5 = x := ⟨_, rfl⟩
  obtain ⟨y5, hy5⟩ : ∃ y, y = x5 * 268435456 := ⟨_, rfl⟩
  have a5 := dec_or_u64 34 x4 (d5 * 268435456) y5 (y4 : Int) ((d5 : Int) * 268435456) (by omega) (by omega) (by omega) (by omega) (by omega)
  obtain ⟨x6, hx6⟩ : ∃ x, x5 * 64 + d6 = x := ⟨_, rfl⟩
  obtain ⟨y6, hy6⟩ : ∃ y, y = x6 * 4194304 := ⟨_, rfl⟩
  have a6 := dec_or_u64 28 x5 (d6 * 4194304) y6 (y5 : Int) ((d6 : Int) * 4194304) (by omega) (by omega) (by omega) (by omega) (by omega)
  obtain ⟨x7, hx7⟩ : ∃ x, x6 * 64 + d7 = x := ⟨_, rfl⟩
  obtain ⟨y7, hy7⟩ : ∃ y, y = x7 * 65536 := ⟨_, rfl⟩
  have a7 := dec_or_u64 22 x6 (d7 * 65536) y7 (y6 : Int) ((d7 : Int) * 65536) (by omega) (by omega) (by omega) (by omega) (by omega)
  have HV : Hid (y7 = v) := Lib.hid (by omega)
  clear hv hx1 hy1 hx2 hy2 hx3 hy3 hx4 hy4 hx5 hy5 hx6 hy6 hx7 hy7
  go_enter Tryd.func44, Tryd.ntmps44
  go_wp2_with fail
  go_returns
  have hv := HV.out
  subst hv
  exact ⟨rfl, rfl⟩
set_option maxRecDepth 1000000 in
set_option maxHeartbeats 8000000 in
theorem putUint32_any (D o n c : Nat) (zk : List Nat) (v : Nat) (w : World) (hD : Buf D zk w) (hn : 4 ≤ n) (hl : o + 4 ≤ zk.length) (hv : v < 4294967296) :
    Calls Tryd.prog 48 #[.slice (some ⟨D, o, none⟩) n c, .int .u32 (v : Int)] w fun e w' => e = .returned (.tuple #[]) ∧ w' = ((((w.setCell ⟨D, o, none⟩ (.int .u8 ((v / 16777216 : Nat) : Int))).setCell ⟨D, o + 1, none⟩ (.int .u8 ((v / 65536 % 256 : Nat) : Int))).setCell ⟨D, o + 2, none⟩ (.int .u8 ((v / 256 % 256 : Nat) : Int))).setCell ⟨D, o + 3, none⟩ (.int .u8 ((v % 256 : Nat) : Int))) := by
  have k0 := hD.cell (j := o) (by omega)
  have f0 := hD.free (o)
  have k1 := hD.cell (j := o + 1) (by omega)
  have f1 := hD.free (o + 1)
  have k2 := hD.cell (j := o + 2) (by omega)
  have f2 := hD.free (o + 2)
  have k3 := hD.cell (j := o + 3) (by omega)
  have f3 := hD.free (o + 3)
  clear hD
  generalize zk.getD (o) 0 = v0 at k0
  generalize zk.getD (o + 1) 0 = v1 at k1
  generalize zk.getD (o + 2) 0 = v2 at k2
  generalize zk.getD (o + 3) 0 = v3 at k3
  go_enter Tryd.func48, Tryd.ntmps48
  go_wp2_with fail
  go_returns
  exact ⟨rfl, by simp⟩
set_option maxRecDepth 1000000 in
set_option maxHeartbeats 8000000 in
theorem putUint64_any (D o n c : Nat) (zk : List Nat) (v : Nat) (w : World) (hD : Buf D zk w) (hn : 8 ≤ n) (hl : o + 8 ≤ zk.length) (hv : v < 18446744073709551616) :
    Calls Tryd.prog 45 #[.slice (some ⟨D, o, none⟩) n c, .int .u64 (v : Int)] w fun e w' => e = .returned (.tuple #[]) ∧ w' = ((((((((w.setCell ⟨D, o, none⟩ (.int .u8 ((v / 72057594037927936 : Nat) : Int))).setCell ⟨D, o + 1, none⟩ (.int .u8 ((v / 281474976710656 % 256 : Nat) : Int))).setCell ⟨D, o + 2, none⟩ (.int .u8 ((v / 1099511627776 % 256 : Nat) : Int))).setCell ⟨D, o + 3, none⟩ (.int .u8 ((v / 4294967296 % 256 : Nat) : Int))).setCell ⟨D, o + 4, none⟩ (.int .u8 ((v / 16777216 % 256 : Nat) : Int))).setCell ⟨D, o + 5, none⟩ (.int .u8 ((v / 65536 % 256 : Nat) : Int))).setCell ⟨D, o + 6, none⟩ (.int .u8 ((v / 256 % 256 : Nat) : Int))).setCell ⟨D, o + 7, none⟩ (.int .u8 ((v % 256 : Nat) : Int))) := by
  have k0 := hD.cell (j := o) (by omega)
  have f0 := hD.free (o)
  have k1 := hD.cell (j := o + 1) (by omega)
  have f1 := hD.free (o + 1)
  have k2 := hD.cell (j := o + 2) (by omega)
  have f2 := hD.free (o + 2)
  have k3 := hD.cell (j := o + 3) (by omega)
  have f3 := hD.free (o + 3)
  have k4 := hD.cell (j := o + 4) (by omega)
  have f4 := hD.free (o + 4)
  have k5 := hD.cell (j := o + 5) (by omega)
  have f5 := hD.free (o + 5)
  have k6 := hD.cell (j := o + 6) (by omega)
  have f6 := hD.free (o + 6)
  have k7 := hD.cell (j := o + 7) (by omega)
  have f7 := hD.free (o + 7)
  clear hD
  generalize zk.getD (o) 0 = v0 at k0
  generalize zk.getD (o + 1) 0 = v1 at k1
  generalize zk.getD (o + 2) 0 = v2 at k2
  generalize zk.getD (o + 3) 0 = v3 at k3
  generalize zk.getD (o + 4) 0 = v4 at k4
  generalize zk.getD (o + 5) 0 = v5 at k5
  generalize zk.getD (o + 6) 0 = v6 at k6
  generalize zk.getD (o + 7) 0 = v7 at k7
  go_enter Tryd.func45, Tryd.ntmps45
  go_wp2_with fail
  go_returns
  exact ⟨rfl, by simp⟩
end Go.Proofs.YtmfbnmjmgpafmaaDoor
