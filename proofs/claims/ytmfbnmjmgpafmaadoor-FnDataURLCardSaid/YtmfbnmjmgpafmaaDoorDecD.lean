/- encoding/base64: Decode (37) of the signs of bytes. -/
import Derived.Test.YtmfbnmjmgpafmaaDoorDecC
namespace Go.Proofs.YtmfbnmjmgpafmaaDoor
open Go.RowKit
set_option linter.unusedVariables false
set_option linter.unusedSimpArgs false
/-- Where a loop of Decode stands: k quanta are read. -/
def DSt (B D S : Nat) (t : List Nat) (zl k : Nat) (w W : World) : Prop :=
  (∃ zk : List Nat, zk.length = zl ∧ (∀ j, j < 3 * k → zk.getD j 0 = t.getD j 0) ∧ Buf D zk W) ∧ EncAt B W ∧ Cel S (b64 t) W ∧ Below D w W
theorem v32 (y v : Nat) (hy : y < 16777216) (h : y / 262144 % 64 * 67108864 + y / 4096 % 64 * 1048576 + y / 64 % 64 * 16384 + y % 64 * 256 = v) : v = y * 256 := by omega
theorem v64 (y z v : Nat) (hy : y < 16777216) (hz : z < 16777216) (h : y / 262144 % 64 * 288230376151711744 + y / 4096 % 64 * 4503599627370496 + y / 64 % 64 * 70368744177664 + y % 64 * 1099511627776 + z / 262144 % 64 * 17179869184 + z / 4096 % 64 * 268435456 + z / 64 % 64 * 4194304 + z % 64 * 65536 = v) : v = y * 1099511627776 + z * 65536 := by
  have e1 := split4 y hy
  have e2 := split4 z hz
  omega
theorem bytes_of3 (a b c y v : Nat) (ha : a < 256) (hb : b < 256) (hc : c < 256) (hy : a * 65536 + b * 256 + c = y) (hv : v = y * 256) : v / 16777216 = a ∧ v / 65536 % 256 = b ∧ v / 256 % 256 = c ∧ v < 4294967296 := by
  subst hy hv
  refine ⟨?_, ?_, ?_, ?_⟩ <;> omega
theorem bytes_of6 (a b c d e f y x v : Nat) (ha : a < 256) (hb : b < 256) (hc : c < 256) (hd : d < 256) (he : e < 256) (hf : f < 256) (hy : a * 65536 + b * 256 + c = y) (hx : d * 65536 + e * 256 + f = x) (hv : v = y * 1099511627776 + x * 65536) :
    v / 72057594037927936 = a ∧ v / 281474976710656 % 256 = b ∧ v / 1099511627776 % 256 = c ∧ v / 4294967296 % 256 = d ∧ v / 16777216 % 256 = e ∧ v / 65536 % 256 = f ∧ v < 18446744073709551616 := by
  subst hy hx hv
  refine ⟨?_, ?_, ?_, ?_, ?_, ?_, ?_⟩ <;> omega
theorem put4_st {B D S n v : Nat} {zk l : List Nat} {w W : World} (hBD : B ≠ D) (hSD : S ≠ D) (h1 : Buf D zk W) (h2 : EncAt B W) (h3 : Cel S l W) (h4 : Below D w W) :
    Buf D ((((zk.set (n) (v / 16777216)).set (n + 1) (v / 65536 % 256)).set (n + 2) (v / 256 % 256)).set (n + 3) (v % 256)) ((((W.setCell ⟨D, n, none⟩ (.int .u8 ((v : Int) / 16777216))).setCell ⟨D, n + 1, none⟩ (.int .u8 ((v : Int) / 65536 % 256))).setCell ⟨D, n + 2, none⟩ (.int .u8 ((v : Int) / 256 % 256))).setCell ⟨D, n + 3, none⟩ (.int .u8 ((v : Int) % 256))) ∧ EncAt B ((((W.setCell ⟨D, n, none⟩ (.int .u8 ((v : Int) / 16777216))).setCell ⟨D, n + 1, none⟩ (.int .u8 ((v : Int) / 65536 % 256))).setCell ⟨D, n + 2, none⟩ (.int .u8 ((v : Int) / 256 % 256))).setCell ⟨D, n + 3, none⟩ (.int .u8 ((v : Int) % 256))) ∧ Cel S l ((((W.setCell ⟨D, n, none⟩ (.int .u8 ((v : Int) / 16777216))).setCell ⟨D, n + 1, none⟩ (.int .u8 ((v : Int) / 65536 % 256))).setCell ⟨D, n + 2, none⟩ (.int .u8 ((v : Int) / 256 % 256))).setCell ⟨D, n + 3, none⟩ (.int .u8 ((v : Int) % 256))) ∧ Below D w ((((W.setCell ⟨D, n, none⟩ (.int .u8 ((v : Int) / 16777216))).setCell ⟨D, n + 1, none⟩ (.int .u8 ((v : Int) / 65536 % 256))).setCell ⟨D, n + 2, none⟩ (.int .u8 ((v : Int) / 256 % 256))).setCell ⟨D, n + 3, none⟩ (.int .u8 ((v : Int) % 256))) := ⟨((((h1.putI (n) (v / 16777216) _ (by omega)).putI (n + 1) (v / 65536 % 256) _ (by omega)).putI (n + 2) (v / 256 % 256) _ (by omega)).putI (n + 3) (v % 256) _ (by omega)), ((((h2.other hBD _).other hBD _).other hBD _).other hBD _), ((((h3.other hSD _).other hSD _).other hSD _).other hSD _), ((((h4.setCell (Nat.le_refl D) _).setCell (Nat.le_refl D) _).setCell (Nat.le_refl D) _).setCell (Nat.le_refl D) _)⟩
theorem put8_st {B D S n v : Nat} {zk l : List Nat} {w W : World} (hBD : B ≠ D) (hSD : S ≠ D) (h1 : Buf D zk W) (h2 : EncAt B W) (h3 : Cel S l W) (h4 : Below D w W) :
    Buf D ((((((((zk.set (n) (v / 72057594037927936)).set (n + 1) (v / 281474976710656 % 256)).set (n + 2) (v / 1099511627776 % 256)).set (n + 3) (v / 4294967296 % 256)).set (n + 4) (v / 16777216 % 256)).set (n + 5) (v / 65536 % 256)).set (n + 6) (v / 256 % 256)).set (n + 7) (v % 256)) ((((((((W.setCell ⟨D, n, none⟩ (.int .u8 ((v : Int) / 72057594037927936))).setCell ⟨D, n + 1, none⟩ (.int .u8 ((v : Int) / 281474976710656 % 256))).setCell ⟨D, n + 2, none⟩ (.int .u8 ((v : Int) / 1099511627776 % 256))).setCell ⟨D, n + 3, none⟩ (.int .u8 ((v : Int) / 4294967296 % 256))).setCell ⟨D, n + 4, none⟩ (.int .u8 ((v : Int) / 16777216 % 256))).setCell ⟨D, n + 5, none⟩ (.int .u8 ((v : Int) / 65536 % 256))).setCell ⟨D, n + 6, none⟩ (.int .u8 ((v : Int) / 256 % 256))).setCell ⟨D, n + 7, none⟩ (.int .u8 ((v : Int) % 256))) ∧ EncAt B ((((((((W.setCell ⟨D, n, none⟩ (.int .u8 ((v : Int) / 72057594037927936))).setCell ⟨D, n + 1, none⟩ (.int .u8 ((v : Int) / 281474976710656 % 256))).setCell ⟨D, n + 2, none⟩ (.int .u8 ((v : Int) / 1099511627776 % 256))).setCell ⟨D, n + 3, none⟩ (.int .u8 ((v : Int) / 4294967296 % 256))).setCell ⟨D, n + 4, none⟩ (.int .u8 ((v : Int) / 16777216 % 256))).setCell ⟨D, n + 5, none⟩ (.int .u8 ((v : Int) / 65536 % 256))).setCell ⟨D, n + 6, none⟩ (.int .u8 ((v : Int) / 256 % 256))).setCell ⟨D, n + 7, none⟩ (.int .u8 ((v : Int) % 256))) ∧ Cel S l ((((((((W.setCell ⟨D, n, none⟩ (.int .u8 ((v : Int) / 72057594037927936))).setCell ⟨D, n + 1, none⟩ (.int .u8 ((v : Int) / 281474976710656 % 256))).setCell ⟨D, n + 2, none⟩ (.int .u8 ((v : Int) / 1099511627776 % 256))).setCell ⟨D, n + 3, none⟩ (.int .u8 ((v : Int) / 4294967296 % 256))).setCell ⟨D, n + 4, none⟩ (.int .u8 ((v : Int) / 16777216 % 256))).setCell ⟨D, n + 5, none⟩ (.int .u8 ((v : Int) / 65536 % 256))).setCell ⟨D, n + 6, none⟩ (.int .u8 ((v : Int) / 256 % 256))).setCell ⟨D, n + 7, none⟩ (.int .u8 ((v : Int) % 256))) ∧ Below D w ((((((((W.setCell ⟨D, n, none⟩ (.int .u8 ((v : Int) / 72057594037927936))).setCell ⟨D, n + 1, none⟩ (.int .u8 ((v : Int) / 281474976710656 % 256))).setCell ⟨D, n + 2, none⟩ (.int .u8 ((v : Int) / 1099511627776 % 256))).setCell ⟨D, n + 3, none⟩ (.int .u8 ((v : Int) / 4294967296 % 256))).setCell ⟨D, n + 4, none⟩ (.int .u8 ((v : Int) / 16777216 % 256))).setCell ⟨D, n + 5, none⟩ (.int .u8 ((v : Int) / 65536 % 256))).setCell ⟨D, n + 6, none⟩ (.int .u8 ((v : Int) / 256 % 256))).setCell ⟨D, n + 7, none⟩ (.int .u8 ((v : Int) % 256))) := ⟨((((((((h1.putI (n) (v / 72057594037927936) _ (by omega)).putI (n + 1) (v / 281474976710656 % 256) _ (by omega)).putI (n + 2) (v / 1099511627776 % 256) _ (by omega)).putI (n + 3) (v / 4294967296 % 256) _ (by omega)).putI (n + 4) (v / 16777216 % 256) _ (by omega)).putI (n + 5) (v / 65536 % 256) _ (by omega)).putI (n + 6) (v / 256 % 256) _ (by omega)).putI (n + 7) (v % 256) _ (by omega)), ((((((((h2.other hBD _).other hBD _).other hBD _).other hBD _).other hBD _).other hBD _).other hBD _).other hBD _), ((((((((h3.other hSD _).other hSD _).other hSD _).other hSD _).other hSD _).other hSD _).other hSD _).other hSD _), ((((((((h4.setCell (Nat.le_refl D) _).setCell (Nat.le_refl D) _).setCell (Nat.le_refl D) _).setCell (Nat.le_refl D) _).setCell (Nat.le_refl D) _).setCell (Nat.le_refl D) _).setCell (Nat.le_refl D) _).setCell (Nat.le_refl D) _)⟩
theorem set4_get {zk t : List Nat} {k v zl : Nat} (hl : zk.length = zl) (h : 3 * k + 4 ≤ zl) (hz : ∀ j, j < 3 * k → zk.getD j 0 = t.getD j 0) (e0 : v / 16777216 = t.getD (3 * k) 0) (e1 : v / 65536 % 256 = t.getD (3 * k + 1) 0) (e2 : v / 256 % 256 = t.getD (3 * k + 2) 0) :
    (((((zk.set (3 * k) (v / 16777216)).set (3 * k + 1) (v / 65536 % 256)).set (3 * k + 2) (v / 256 % 256)).set (3 * k + 3) (v % 256))).length = zl ∧ ∀ j, j < 3 * (k + 1) → (((((zk.set (3 * k) (v / 16777216)).set (3 * k + 1) (v / 65536 % 256)).set (3 * k + 2) (v / 256 % 256)).set (3 * k + 3) (v % 256))).getD j 0 = t.getD j 0 := by
  refine ⟨by simp [hl], fun j hj => ?_⟩
  rw [getD_set _ _ _ _ (by simp; omega), getD_set _ _ _ _ (by simp; omega), getD_set _ _ _ _ (by simp; omega), getD_set _ _ _ _ (by omega)]
  split
  · omega
  · skip
    split
    · rename_i e; rw [← e, e2]
    · skip
      split
      · rename_i e; rw [← e, e1]
      · skip
        split
        · rename_i e; rw [← e, e0]
        · exact hz j (by omega)
theorem set8_get {zk t : List Nat} {k v zl : Nat} (hl : zk.length = zl) (h : 3 * k + 8 ≤ zl) (hz : ∀ j, j < 3 * k → zk.getD j 0 = t.getD j 0) (e0 : v / 72057594037927936 = t.getD (3 * k) 0) (e1 : v / 281474976710656 % 256 = t.getD (3 * k + 1) 0) (e2 : v / 1099511627776 % 256 = t.getD (3 * k + 2) 0) (e3 : v / 4294967296 % 256 = t.getD (3 * k + 3) 0) (e4 : v / 16777216 % 256 = t.getD (3 * k + 4) 0) (e5 : v / 65536 % 256 = t.getD (3 * k + 5) 0) :
    (((((((((zk.set (3 * k) (v / 72057594037927936)).set (3 * k + 1) (v / 281474976710656 % 256)).set (3 * k + 2) (v / 1099511627776 % 256)).set (3 * k + 3) (v / 4294967296 % 256)).set (3 * k + 4) (v / 16777216 % 256)).set (3 * k + 5) (v / 65536 % 256)).set (3 * k + 6) (v / 256 % 256)).set (3 * k + 7) (v % 256))).length = zl ∧ ∀ j, j < 3 * (k + 2) → (((((((((zk.set (3 * k) (v / 72057594037927936)).set (3 * k + 1) (v / 281474976710656 % 256)).set (3 * k + 2) (v / 1099511627776 % 256)).set (3 * k + 3) (v / 4294967296 % 256)).set (3 * k + 4) (v / 16777216 % 256)).set (3 * k + 5) (v / 65536 % 256)).set (3 * k + 6) (v / 256 % 256)).set (3 * k + 7) (v % 256))).getD j 0 = t.getD j 0 := by
  refine ⟨by simp [hl], fun j hj => ?_⟩
  rw [getD_set _ _ _ _ (by simp; omega), getD_set _ _ _ _ (by simp; omega), getD_set _ _ _ _ (by simp; omega), getD_set _ _ _ _ (by simp; omega), getD_set _ _ _ _ (by simp; omega), getD_set _ _ _ _ (by simp; omega), getD_set _ _ _ _ (by simp; omega), getD_set _ _ _ _ (by omega)]
  split
  · omega
  · skip
    split
    · omega
    · skip
      split
      · rename_i e; rw [← e, e5]
      · skip
        split
        · rename_i e; rw [← e, e4]
        · skip
          split
          · rename_i e; rw [← e, e3]
          · skip
            split
            · rename_i e; rw [← e, e2]
            · skip
              split
              · rename_i e; rw [← e, e1]
              · skip
                split
                · rename_i e; rw [← e, e0]
                · exact hz j (by omega)
set_option maxRecDepth 1000000 in
set_option maxHeartbeats 16000000 in
theorem decode_any (B D S : Nat) (t z : List Nat) (m zl dc sc : Nat) (w : World) (hE : EncAt B w) (hS : Cel S (b64 t) w) (hD : Buf D z w) (hm : (b64 t).length = m) (hz : z.length = zl) (hzl : zl = m / 4 * 3) (ht : t.length ≤ 1000) (hlt : ∀ b ∈ t, b < 256)
    (hdc : zl ≤ dc) (hsc : m ≤ sc) (hbc : dc ≤ 100000) (hbs : sc ≤ 9223372036854775807) (hBD : B < D) (hSD : S ≠ D) :
    Calls Tryd.prog 37 #[.pointer (some ⟨B, 0, none⟩), .slice (some ⟨D, 0, none⟩) zl dc, .slice (some ⟨S, 0, none⟩) m sc] w fun e w' =>
      e = .returned (.tuple #[.int .i64 (t.length : Int), Value.nilIface]) ∧ (∃ zk : List Nat, zk.length = zl ∧ (∀ j, j < t.length → zk.getD j 0 = t.getD j 0) ∧ Buf D zk w') ∧ Below D w w' := by
  have hb := b64_len _ t (Nat.le_refl _)
  rw [hm] at hb
  have HLT : Hid (∀ i, i < t.length → t.getD i 0 < 256) := Lib.hid (fun i hi => hlt _ (by rw [List.getD, List.getElem?_eq_getElem hi]; exact List.getElem_mem _))
  have HSt : Hid (DSt B D S t zl 0 w w) := Lib.hid ⟨⟨z, hz, fun j hj => absurd hj (by omega), hD⟩, hE, hS, Below.refl D w⟩
  have HE := Lib.hid hE
  have HM := Lib.hid hb
  have HZ := Lib.hid hzl
  have HBL := Lib.hid hm
  have hBD' : B ≠ D := by omega
  have hDB : D ≠ B := by omega
  clear hE hS hD hz hlt hb hzl hm
  by_cases h0 : m = 0
  · have t0 : ((m : Int) == 0) = true := beq_iff_eq.2 (by omega)
    go_enter Tryd.func37, Tryd.ntmps37
    go_wp2_with fail
    go_returns
    have := HM.out
    have h9 : t.length = 0 := by omega
    obtain ⟨⟨zk, h1, h2, h3⟩, h4, h5, h6⟩ := HSt.out
    exact ⟨by rw [h9]; rfl, ⟨zk, h1, fun j hj => absurd hj (by omega), h3⟩, h6⟩
  · have t0 : ((m : Int) == 0) = false := beq_eq_false_iff_ne.2 (by omega)
    go_enter Tryd.func37, Tryd.ntmps37
    go_wp2_with (refine wpList_load_mid rfl 67 _ rfl B 64 rfl decCells _ (dec_range HE.out) Tryd.underlying67 rfl info67 ?_; go_simp)
    go_loopw [6, 7, 8] (fun nv ev sv W => ∃ n s k : Nat, nv = .int .i64 (n : Int) ∧ ev = Value.nilIface ∧ sv = .int .i64 (s : Int) ∧ n ≤ zl ∧ s < m ∧ Hid (n = 3 * k ∧ s = 4 * k) ∧ Hid (DSt B D S t zl k w W)) (fun _ _ sv _ => m - (intOf sv).toNat)
    case atStart => exact ⟨0, 0, 0, rfl, rfl, rfl, Nat.zero_le _, by omega, Lib.hid ⟨rfl, rfl⟩, HSt⟩
    case round =>
      clear HSt HE h0 t0
      obtain ⟨n, s, k, rfl, rfl, rfl, hn, hs, HK, HSt⟩ := hrel
      rename World => W
      by_cases hc : n + 8 ≤ zl
      · have hs8 : s + 8 ≤ m := by have := HK.out; have := HZ.out; omega
        have t1 : decide ((8 : Int) ≤ (m : Int) - (s : Int)) = true := decide_eq_true (by omega)
        have t2 : decide ((8 : Int) ≤ (zl : Int) - (n : Int)) = true := decide_eq_true (by omega)
        have hk := HK.out
        have hM := HM.out
        have hZ := HZ.out
        obtain ⟨⟨zk, hzk, hzt, hBufD⟩, hE, hS, hL⟩ := HSt.out
        have la0 := HLT.out (3 * k + 0) (by omega)
        have la1 := HLT.out (3 * k + 1) (by omega)
        have la2 := HLT.out (3 * k + 2) (by omega)
        obtain ⟨y, hy⟩ : ∃ y, t.getD (3 * k + 0) 0 * 65536 + t.getD (3 * k + 1) 0 * 256 + t.getD (3 * k + 2) 0 = y := ⟨_, rfl⟩
        have ly : y < 16777216 := by omega
        obtain ⟨g0, g1, g2, g3⟩ := b64_three t k y (by omega) hy
        have la3 := HLT.out (3 * k + 3) (by omega)
        have la4 := HLT.out (3 * k + 4) (by omega)
        have la5 := HLT.out (3 * k + 5) (by omega)
        obtain ⟨x, hx⟩ : ∃ y, t.getD (3 * k + 3) 0 * 65536 + t.getD (3 * k + 4) 0 * 256 + t.getD (3 * k + 5) 0 = y := ⟨_, rfl⟩
        have lx : x < 16777216 := by omega
        obtain ⟨g4, g5, g6, g7⟩ := b64_three t (k + 1) x (by omega) (by rw [show 3 * (k + 1) = 3 * k + 3 by omega]; exact hx)
        obtain ⟨d0, hd0⟩ : ∃ d, y / 262144 % 64 = d := ⟨_, rfl⟩
        have ld0 : d0 < 64 := by omega
        rw [hd0] at g0
        obtain ⟨b0, hb0⟩ : ∃ b, dg d0 = b := ⟨_, rfl⟩
        have f0 := dg_facts d0 ld0
        rw [hb0] at f0 g0
        have e0 := hE.dec b0 (by omega)
        rw [f0.1] at e0
        have c0 : W.cell? ⟨S, s, none⟩ = some (.int .u8 (b0 : Int)) := by
          have := hS.cell (j := s) (by rw [HBL.out]; omega)
          rw [this, show s = 4 * k by omega, g0]
        have lb0 : (0 : Int) ≤ (b0 : Int) ∧ (b0 : Int) < 256 := by omega
        obtain ⟨d1, hd1⟩ : ∃ d, y / 4096 % 64 = d := ⟨_, rfl⟩
        have ld1 : d1 < 64 := by omega
        rw [hd1] at g1
        obtain ⟨b1, hb1⟩ : ∃ b, dg d1 = b := ⟨_, rfl⟩
        have f1 := dg_facts d1 ld1
        rw [hb1] at f1 g1
        have e1 := hE.dec b1 (by omega)
        rw [f1.1] at e1
        have c1 : W.cell? ⟨S, s + 1, none⟩ = some (.int .u8 (b1 : Int)) := by
          have := hS.cell (j := s + 1) (by rw [HBL.out]; omega)
          rw [this, show s + 1 = 4 * k + 1 by omega, g1]
        have lb1 : (0 : Int) ≤ (b1 : Int) ∧ (b1 : Int) < 256 := by omega
        obtain ⟨d2, hd2⟩ : ∃ d, y / 64 % 64 = d := ⟨_, rfl⟩
        have ld2 : d2 < 64 := by omega
        rw [hd2] at g2
        obtain ⟨b2, hb2⟩ : ∃ b, dg d2 = b := ⟨_, rfl⟩
        have f2 := dg_facts d2 ld2
        rw [hb2] at f2 g2
        have e2 := hE.dec b2 (by omega)
        rw [f2.1] at e2
        have c2 : W.cell? ⟨S, s + 2, none⟩ = some (.int .u8 (b2 : Int)) := by
          have := hS.cell (j := s + 2) (by rw [HBL.out]; omega)
          rw [this, show s + 2 = 4 * k + 2 by omega, g2]
        have lb2 : (0 : Int) ≤ (b2 : Int) ∧ (b2 : Int) < 256 := by omega
        obtain ⟨d3, hd3⟩ : ∃ d, y % 64 = d := ⟨_, rfl⟩
        have ld3 : d3 < 64 := by omega
        rw [hd3] at g3
        obtain ⟨b3, hb3⟩ : ∃ b, dg d3 = b := ⟨_, rfl⟩
        have f3 := dg_facts d3 ld3
        rw [hb3] at f3 g3
        have e3 := hE.dec b3 (by omega)
        rw [f3.1] at e3
        have c3 : W.cell? ⟨S, s + 3, none⟩ = some (.int .u8 (b3 : Int)) := by
          have := hS.cell (j := s + 3) (by rw [HBL.out]; omega)
          rw [this, show s + 3 = 4 * k + 3 by omega, g3]
        have lb3 : (0 : Int) ≤ (b3 : Int) ∧ (b3 : Int) < 256 := by omega
        obtain ⟨d4, hd4⟩ : ∃ d, x / 262144 % 64 = d := ⟨_, rfl⟩
        have ld4 : d4 < 64 := by omega
        rw [hd4] at g4
        obtain ⟨b4, hb4⟩ : ∃ b, dg d4 = b := ⟨_, rfl⟩
        have f4 := dg_facts d4 ld4
        rw [hb4] at f4 g4
        have e4 := hE.dec b4 (by omega)
        rw [f4.1] at e4
        have c4 : W.cell? ⟨S, s + 4, none⟩ = some (.int .u8 (b4 : Int)) := by
          have := hS.cell (j := s + 4) (by rw [HBL.out]; omega)
          rw [this, show s + 4 = 4 * (k + 1) by omega, g4]
        have lb4 : (0 : Int) ≤ (b4 : Int) ∧ (b4 : Int) < 256 := by omega
        obtain ⟨d5, hd5⟩ : ∃ d, x / 4096 % 64 = d := ⟨_, rfl⟩
        have ld5 : d5 < 64 := by omega
        rw [hd5] at g5
        obtain ⟨b5, hb5⟩ : ∃ b, dg d5 = b := ⟨_, rfl⟩
        have f5 := dg_facts d5 ld5
        rw [hb5] at f5 g5
        have e5 := hE.dec b5 (by omega)
        rw [f5.1] at e5
        have c5 : W.cell? ⟨S, s + 5, none⟩ = some (.int .u8 (b5 : Int)) := by
          have := hS.cell (j := s + 5) (by rw [HBL.out]; omega)
          rw [this, show s + 5 = 4 * (k + 1) + 1 by omega, g5]
        have lb5 : (0 : Int) ≤ (b5 : Int) ∧ (b5 : Int) < 256 := by omega
        obtain ⟨d6, hd6⟩ : ∃ d, x / 64 % 64 = d := ⟨_, rfl⟩
        have ld6 : d6 < 64 := by omega
        rw [hd6] at g6
        obtain ⟨b6, hb6⟩ : ∃ b, dg d6 = b := ⟨_, rfl⟩
        have f6 := dg_facts d6 ld6
        rw [hb6] at f6 g6
        have e6 := hE.dec b6 (by omega)
        rw [f6.1] at e6
        have c6 : W.cell? ⟨S, s + 6, none⟩ = some (.int .u8 (b6 : Int)) := by
          have := hS.cell (j := s + 6) (by rw [HBL.out]; omega)
          rw [this, show s + 6 = 4 * (k + 1) + 2 by omega, g6]
        have lb6 : (0 : Int) ≤ (b6 : Int) ∧ (b6 : Int) < 256 := by omega
        obtain ⟨d7, hd7⟩ : ∃ d, x % 64 = d := ⟨_, rfl⟩
        have ld7 : d7 < 64 := by omega
        rw [hd7] at g7
        obtain ⟨b7, hb7⟩ : ∃ b, dg d7 = b := ⟨_, rfl⟩
        have f7 := dg_facts d7 ld7
        rw [hb7] at f7 g7
        have e7 := hE.dec b7 (by omega)
        rw [f7.1] at e7
        have c7 : W.cell? ⟨S, s + 7, none⟩ = some (.int .u8 (b7 : Int)) := by
          have := hS.cell (j := s + 7) (by rw [HBL.out]; omega)
          rw [this, show s + 7 = 4 * (k + 1) + 3 by omega, g7]
        have lb7 : (0 : Int) ≤ (b7 : Int) ∧ (b7 : Int) < 256 := by omega
        obtain ⟨v, hv⟩ : ∃ v, d0 * 288230376151711744 + d1 * 4503599627370496 + d2 * 70368744177664 + d3 * 1099511627776 + d4 * 17179869184 + d5 * 268435456 + d6 * 4194304 + d7 * 65536 = v := ⟨_, rfl⟩
        have DA := Lib.hid (fun W : World => assemble64_any d0 d1 d2 d3 d4 d5 d6 d7 v W ld0 ld1 ld2 ld3 ld4 ld5 ld6 ld7 hv)
        have hv2 := v64 y x v ly lx (by rw [hd0, hd1, hd2, hd3, hd4, hd5, hd6, hd7]; exact hv)
        obtain ⟨z0, z1, z2, z3, z4, z5, lv⟩ := bytes_of6 _ _ _ _ _ _ y x v la0 la1 la2 la3 la4 la5 hy hx hv2
        have HG := Lib.hid (set8_get (v := v) hzk (by omega) hzt z0 z1 z2 z3 z4 z5)
        have HB1 := Lib.hid hBufD
        have HE1 := Lib.hid hE
        have HS1 := Lib.hid hS
        have HL1 := Lib.hid hL
        have HZK := Lib.hid hzk
        clear hk hM hZ hzk hzt hBufD hE hS hL hv hv2 la0 la1 la2 la3 la4 la5 z0 z1 z2 z3 z4 z5 hy ly hx lx hd0 hb0 f0 g0 hd1 hb1 f1 g1 hd2 hb2 f2 g2 hd3 hb3 f3 g3 hd4 hb4 f4 g4 hd5 hb5 f5 g5 hd6 hb6 f6 g6 hd7 hb7 f7 g7
        go_wp2_with fail
        rw [Nat.add_sub_cancel_left]
        refine region7 _ W B S s _ v d0 b0 d1 b1 d2 b2 d3 b3 d4 b4 d5 b5 d6 b6 d7 b7 e0 c0 lb0 e1 c1 lb1 e2 c2 lb2 e3 c3 lb3 e4 c4 lb4 e5 c5 lb5 e6 c6 lb6 e7 c7 lb7 DA _ _ _ _ _ _ _ _ _ _ _ _ _ _ _ _ _ _ _ _ _ _ _ _ _ _ _ _ _ _ _ _ _ _ _ _ _ _ _ _ _ _ _ _ _ _ _ _ _ _ _ _ _ _ _ _ _ _ _ _ _ _ _ _ _ _ _ _ _ _ _ _ _ _ _ _ _ _ _ _ _ _ _ _ _ _ _ _ _ _ _ _ _ _ _ _ _ _ _ _ _ _ _ _ _ _ _ _ _ _ _ _ _ _ _ _ _ _ _ _ _ _ _ _ _ _ _ _ _ _ _ _ _ _ _ _ _ _ _ _ _ _ _ _ _ _ _ _ _ _ _ _ _ _ _ _ _ _ _ _ _ _ _ _ _ _ _ _ _ _ _ _ _ _ _ _ _ _ _ _ _ _ _ _ _ _ _ _ _ _ _ _ _ _ _ _ _ _ _ _ _ _ _ _ _ _ _ _ _ _ _ _ _ _ _ _ _ _ _ _ _ _ _ _ _ _ _ _ _ _ _ _ _ _ _ _ _ _ _ _ _ _ _ ?_
        intro nq x44 x45 x46 x47 x48 x49 x50 x51 x52 x53 x54 x55 x56 x57 x58 x59 x60 x61 x62 x63 x64 x65 x66 x67 x68 x69 x70 x71 x72 x73 x74 x75 x76 x77 x78 x79 x80 x81 x82 x83 x84 x85 x86 x87 x88 x89 x90 x91 x92 x93 x94 x95 x96 x97 x98 x99 x100 x101 x102 x103 x104 x105 x106 x107 x108 x109 x110 x111
        obtain ⟨W1, hW1⟩ : ∃ W1, W.drewN nq = W1 := ⟨_, rfl⟩
        have HB2 : Hid (Buf D zk W1) := Lib.hid (by rw [← hW1]; exact HB1.out)
        have HE2 : Hid (EncAt B W1) := Lib.hid (by rw [← hW1]; exact HE1.out.drewN nq)
        have HS2 : Hid (Cel S (b64 t) W1) := Lib.hid (by rw [← hW1]; exact HS1.out)
        have HL2 : Hid (Below D w W1) := Lib.hid (by rw [← hW1]; exact HL1.out.trans (Joins.below_draws D W nq))
        rw [hW1]
        clear hW1 HB1 HE1 HS1 HL1 HSt e0 c0 e1 c1 e2 c2 e3 c3 e4 c4 e5 c5 e6 c6 e7 c7
        have hzn : n + 8 ≤ zk.length := by rw [HZK.out]; exact hc
        obtain ⟨pn, hpn⟩ : ∃ pn, zl - n = pn := ⟨_, rfl⟩
        have lpn : 8 ≤ pn := by omega
        have DP := Lib.hid (fun c => putUint64_any D n pn c zk v W1 HB2.out lpn hzn lv)
        have HP := Lib.hid (put8_st (n := n) (v := v) hBD' hSD HB2.out HE2.out HS2.out HL2.out)
        go_wp2_with (go_at_call 45; (with_reducible refine (DP.out _).mono ?_); rintro e w8 ⟨rfl, hw8⟩; rw [hw8]; clear hw8 w8)
        have hk := HK.out
        have hM := HM.out
        have hZ := HZ.out
        refine ⟨⟨n + 6, s + 8, k + 2, by go_num, rfl, by go_num, by omega, by omega, Lib.hid ⟨by omega, by omega⟩, Lib.hid ?_⟩, by simp [intOf]; omega⟩
        have hG := HG.out
        have hP := HP.out
        obtain ⟨rfl, hk2⟩ := hk
        exact ⟨⟨_, hG.1, hG.2, hP.1⟩, hP.2⟩
      · have t2 : decide ((8 : Int) ≤ (zl : Int) - (n : Int)) = false := decide_eq_false (by omega)
        by_cases hA : s + 8 ≤ m
        · have t1 : decide ((8 : Int) ≤ (m : Int) - (s : Int)) = true := decide_eq_true (by omega)
          go_wp2_with fail
          clear t1 t2
          go_loopw [6, 7, 8] (fun nv ev sv W => ∃ n s k : Nat, nv = .int .i64 (n : Int) ∧ ev = Value.nilIface ∧ sv = .int .i64 (s : Int) ∧ n ≤ zl ∧ s < m ∧ Hid (n = 3 * k ∧ s = 4 * k) ∧ Hid (DSt B D S t zl k w W)) (fun _ _ sv _ => m - (intOf sv).toNat)
          case atStart => exact ⟨n, s, k, rfl, rfl, rfl, hn, hs, HK, HSt⟩
          case round =>
            clear HSt HK hn hs hA hc
            obtain ⟨n, s, k, rfl, rfl, rfl, hn, hs, HK, HSt⟩ := hrel
            rename World => W
            have t1 : decide ((4 : Int) ≤ (m : Int) - (s : Int)) = true := decide_eq_true (by have := HM.out; have := HK.out; omega)
            by_cases hc : n + 4 ≤ zl
            · have hs8 : s + 4 ≤ m := by have := HK.out; have := HZ.out; omega
              have t2 : decide ((4 : Int) ≤ (zl : Int) - (n : Int)) = true := decide_eq_true (by omega)
              have hk := HK.out
              have hM := HM.out
              have hZ := HZ.out
              obtain ⟨⟨zk, hzk, hzt, hBufD⟩, hE, hS, hL⟩ := HSt.out
              have la0 := HLT.out (3 * k + 0) (by omega)
              have la1 := HLT.out (3 * k + 1) (by omega)
              have la2 := HLT.out (3 * k + 2) (by omega)
              obtain ⟨y, hy⟩ : ∃ y, t.getD (3 * k + 0) 0 * 65536 + t.getD (3 * k + 1) 0 * 256 + t.getD (3 * k + 2) 0 = y := ⟨_, rfl⟩
              have ly : y < 16777216 := by omega
              obtain ⟨g0, g1, g2, g3⟩ := b64_three t k y (by omega) hy
              obtain ⟨d0, hd0⟩ : ∃ d, y / 262144 % 64 = d := ⟨_, rfl⟩
              have ld0 : d0 < 64 := by omega
              rw [hd0] at g0
              obtain ⟨b0, hb0⟩ : ∃ b, dg d0 = b := ⟨_, rfl⟩
              have f0 := dg_facts d0 ld0
              rw [hb0] at f0 g0
              have e0 := hE.dec b0 (by omega)
              rw [f0.1] at e0
              have c0 : W.cell? ⟨S, s, none⟩ = some (.int .u8 (b0 : Int)) := by
                have := hS.cell (j := s) (by rw [HBL.out]; omega)
                rw [this, show s = 4 * k by omega, g0]
              have lb0 : (0 : Int) ≤ (b0 : Int) ∧ (b0 : Int) < 256 := by omega
              obtain ⟨d1, hd1⟩ : ∃ d, y / 4096 % 64 = d := ⟨_, rfl⟩
              have ld1 : d1 < 64 := by omega
              rw [hd1] at g1
              obtain ⟨b1, hb1⟩ : ∃ b, dg d1 = b := ⟨_, rfl⟩
              have f1 := dg_facts d1 ld1
              rw [hb1] at f1 g1
              have e1 := hE.dec b1 (by omega)
              rw [f1.1] at e1
              have c1 : W.cell? ⟨S, s + 1, none⟩ = some (.int .u8 (b1 : Int)) := by
                have := hS.cell (j := s + 1) (by rw [HBL.out]; omega)
                rw [this, show s + 1 = 4 * k + 1 by omega, g1]
              have lb1 : (0 : Int) ≤ (b1 : Int) ∧ (b1 : Int) < 256 := by omega
              obtain ⟨d2, hd2⟩ : ∃ d, y / 64 % 64 = d := ⟨_, rfl⟩
              have ld2 : d2 < 64 := by omega
              rw [hd2] at g2
              obtain ⟨b2, hb2⟩ : ∃ b, dg d2 = b := ⟨_, rfl⟩
              have f2 := dg_facts d2 ld2
              rw [hb2] at f2 g2
              have e2 := hE.dec b2 (by omega)
              rw [f2.1] at e2
              have c2 : W.cell? ⟨S, s + 2, none⟩ = some (.int .u8 (b2 : Int)) := by
                have := hS.cell (j := s + 2) (by rw [HBL.out]; omega)
                rw [this, show s + 2 = 4 * k + 2 by omega, g2]
              have lb2 : (0 : Int) ≤ (b2 : Int) ∧ (b2 : Int) < 256 := by omega
              obtain ⟨d3, hd3⟩ : ∃ d, y % 64 = d := ⟨_, rfl⟩
              have ld3 : d3 < 64 := by omega
              rw [hd3] at g3
              obtain ⟨b3, hb3⟩ : ∃ b, dg d3 = b := ⟨_, rfl⟩
              have f3 := dg_facts d3 ld3
              rw [hb3] at f3 g3
              have e3 := hE.dec b3 (by omega)
              rw [f3.1] at e3
              have c3 : W.cell? ⟨S, s + 3, none⟩ = some (.int .u8 (b3 : Int)) := by
                have := hS.cell (j := s + 3) (by rw [HBL.out]; omega)
                rw [this, show s + 3 = 4 * k + 3 by omega, g3]
              have lb3 : (0 : Int) ≤ (b3 : Int) ∧ (b3 : Int) < 256 := by omega
              obtain ⟨v, hv⟩ : ∃ v, d0 * 67108864 + d1 * 1048576 + d2 * 16384 + d3 * 256 = v := ⟨_, rfl⟩
              have DA := Lib.hid (fun W : World => assemble32_any d0 d1 d2 d3 v W ld0 ld1 ld2 ld3 hv)
              have hv2 := v32 y v ly (by rw [hd0, hd1, hd2, hd3]; exact hv)
              obtain ⟨z0, z1, z2, lv⟩ := bytes_of3 _ _ _ y v la0 la1 la2 hy hv2
              have HG := Lib.hid (set4_get (v := v) hzk (by omega) hzt z0 z1 z2)
              have HB1 := Lib.hid hBufD
              have HE1 := Lib.hid hE
              have HS1 := Lib.hid hS
              have HL1 := Lib.hid hL
              have HZK := Lib.hid hzk
              clear hk hM hZ hzk hzt hBufD hE hS hL hv hv2 la0 la1 la2 z0 z1 z2 hy ly hd0 hb0 f0 g0 hd1 hb1 f1 g1 hd2 hb2 f2 g2 hd3 hb3 f3 g3
              go_wp2_with fail
              rw [Nat.add_sub_cancel_left]
              refine region19 _ W B S s _ v d0 b0 d1 b1 d2 b2 d3 b3 e0 c0 lb0 e1 c1 lb1 e2 c2 lb2 e3 c3 lb3 DA _ _ _ _ _ _ _ _ _ _ _ _ _ _ _ _ _ _ _ _ _ _ _ _ _ _ _ _ _ _ _ _ _ _ _ _ _ _ _ _ _ _ _ _ _ _ _ _ _ _ _ _ _ _ _ _ _ _ _ _ _ _ _ _ _ _ _ _ _ _ _ _ _ _ _ _ _ _ _ _ _ _ _ _ _ _ _ _ _ _ _ _ _ _ _ _ _ _ _ _ _ _ _ _ _ _ _ _ _ _ _ _ _ _ _ _ _ _ _ _ _ _ _ _ _ _ _ _ _ _ _ _ _ _ _ _ _ _ _ _ _ _ _ _ _ _ _ _ _ _ _ _ _ _ _ _ _ _ _ _ _ _ _ _ _ _ _ _ _ _ _ _ _ _ _ _ _ _ _ _ _ _ _ _ _ _ _ _ _ _ _ _ _ _ _ _ _ _ _ _ _ _ _ _ _ _ _ _ _ _ _ _ _ _ _ _ _ _ _ _ _ _ _ _ _ _ _ _ _ _ _ _ _ _ _ _ _ _ _ _ _ _ _ ?_
              intro nq x157 x158 x159 x160 x161 x162 x163 x164 x165 x166 x167 x168 x169 x170 x171 x172 x173 x174 x175 x176 x177 x178 x179 x180 x181 x182 x183 x184 x185 x186 x187 x188 x189 x190 x191 x192
              obtain ⟨W1, hW1⟩ : ∃ W1, W.drewN nq = W1 := ⟨_, rfl⟩
              have HB2 : Hid (Buf D zk W1) := Lib.hid (by rw [← hW1]; exact HB1.out)
              have HE2 : Hid (EncAt B W1) := Lib.hid (by rw [← hW1]; exact HE1.out.drewN nq)
              have HS2 : Hid (Cel S (b64 t) W1) := Lib.hid (by rw [← hW1]; exact HS1.out)
              have HL2 : Hid (Below D w W1) := Lib.hid (by rw [← hW1]; exact HL1.out.trans (Joins.below_draws D W nq))
              rw [hW1]
              clear hW1 HB1 HE1 HS1 HL1 HSt e0 c0 e1 c1 e2 c2 e3 c3
              have hzn : n + 4 ≤ zk.length := by rw [HZK.out]; exact hc
              obtain ⟨pn, hpn⟩ : ∃ pn, zl - n = pn := ⟨_, rfl⟩
              have lpn : 4 ≤ pn := by omega
              have DP := Lib.hid (fun c => putUint32_any D n pn c zk v W1 HB2.out lpn hzn lv)
              have HP := Lib.hid (put4_st (n := n) (v := v) hBD' hSD HB2.out HE2.out HS2.out HL2.out)
              go_wp2_with (go_at_call 48; (with_reducible refine (DP.out _).mono ?_); rintro e w8 ⟨rfl, hw8⟩; rw [hw8]; clear hw8 w8)
              have hk := HK.out
              have hM := HM.out
              have hZ := HZ.out
              refine ⟨⟨n + 3, s + 4, k + 1, by go_num, rfl, by go_num, by omega, by omega, Lib.hid ⟨by omega, by omega⟩, Lib.hid ?_⟩, by simp [intOf]; omega⟩
              have hG := HG.out
              have hP := HP.out
              obtain ⟨rfl, hk2⟩ := hk
              exact ⟨⟨_, hG.1, hG.2, hP.1⟩, hP.2⟩
            · have t2 : decide ((4 : Int) ≤ (zl : Int) - (n : Int)) = false := decide_eq_false (by omega)
              go_wp2_with fail
              have t3 : decide ((s : Int) < (m : Int)) = true := decide_eq_true (by omega)
              have hk := HK.out
              have hM := HM.out
              have hZ := HZ.out
              obtain ⟨⟨zk, hzk, hzt, hBufD⟩, hE, hS, hL⟩ := HSt.out
              obtain ⟨pn, hpn⟩ : ∃ pn, zl - n = pn := ⟨_, rfl⟩
              obtain ⟨cn, hcn⟩ : ∃ cn, dc - n = cn := ⟨_, rfl⟩
              obtain ⟨r, hr⟩ : ∃ r, t.length - 3 * k = r := ⟨_, rfl⟩
              have DQ := Lib.hid (quantum_any B D S n s m pn cn sc k t zk W hE hS hBufD hk.1 hk.2 HBL.out (by omega) (by omega) ht HLT.out (by omega) hzt (by omega) (by omega) hsc hBD hSD)
              rw [hr] at DQ
              have HZK := Lib.hid hzk
              have HL := Lib.hid hL
              have HR : Hid (n + r = t.length) := Lib.hid (by omega)
              have lr : r ≤ 3 := by omega
              have hnd : n + 3 ≤ dc := by omega
              clear hk hM hZ hzk hzt hBufD hE hS hL hr HSt
              refine wp_loop_rounds 2 ?_
              rw [rounds_succ]
              go_wp2_with (go_at_call 46; (with_reducible refine DQ.out.mono ?_); rintro e w8 ⟨rfl, hw8, hw9⟩)
              rw [rounds_succ]
              go_wp2_with fail
              go_returns
              obtain ⟨zk', g1, g2, g3⟩ := hw8
              refine ⟨?_, ⟨zk', g1.trans HZK.out, g2, g3⟩, HL.out.trans hw9⟩
              rw [← HR.out]
              push_cast
              rfl
        · have t1 : decide ((8 : Int) ≤ (m : Int) - (s : Int)) = false := decide_eq_false (by omega)
          go_wp2_with fail
          clear t1 t2
          have t1 : decide ((4 : Int) ≤ (m : Int) - (s : Int)) = true := decide_eq_true (by have := HM.out; have := HK.out; omega)
          have t2 : decide ((4 : Int) ≤ (zl : Int) - (n : Int)) = false := decide_eq_false (by have := HM.out; have := HK.out; have := HZ.out; omega)
          refine wp_loop_rounds 1 ?_
          rw [rounds_succ]
          go_wp2_with fail
          have t3 : decide ((s : Int) < (m : Int)) = true := decide_eq_true (by omega)
          have hk := HK.out
          have hM := HM.out
          have hZ := HZ.out
          obtain ⟨⟨zk, hzk, hzt, hBufD⟩, hE, hS, hL⟩ := HSt.out
          obtain ⟨pn, hpn⟩ : ∃ pn, zl - n = pn := ⟨_, rfl⟩
          obtain ⟨cn, hcn⟩ : ∃ cn, dc - n = cn := ⟨_, rfl⟩
          obtain ⟨r, hr⟩ : ∃ r, t.length - 3 * k = r := ⟨_, rfl⟩
          have DQ := Lib.hid (quantum_any B D S n s m pn cn sc k t zk W hE hS hBufD hk.1 hk.2 HBL.out (by omega) (by omega) ht HLT.out (by omega) hzt (by omega) (by omega) hsc hBD hSD)
          rw [hr] at DQ
          have HZK := Lib.hid hzk
          have HL := Lib.hid hL
          have HR : Hid (n + r = t.length) := Lib.hid (by omega)
          have lr : r ≤ 3 := by omega
          have hnd : n + 3 ≤ dc := by omega
          clear hk hM hZ hzk hzt hBufD hE hS hL hr HSt
          refine wp_loop_rounds 2 ?_
          rw [rounds_succ]
          go_wp2_with (go_at_call 46; (with_reducible refine DQ.out.mono ?_); rintro e w8 ⟨rfl, hw8, hw9⟩)
          rw [rounds_succ]
          go_wp2_with fail
          go_returns
          obtain ⟨zk', g1, g2, g3⟩ := hw8
          refine ⟨?_, ⟨zk', g1.trans HZK.out, g2, g3⟩, HL.out.trans hw9⟩
          rw [← HR.out]
          push_cast
          rfl
end Go.Proofs.YtmfbnmjmgpafmaaDoor
