/- encoding/base64: decodeQuantum (46) at the last four signs, the three ways in one. -/
import Derived.Test.YtmfbnmjmgpafmaaDoorDecQ
namespace Go.Proofs.YtmfbnmjmgpafmaaDoor
open Go.RowKit
set_option linter.unusedVariables false
set_option linter.unusedSimpArgs false
theorem split4 (y : Nat) (h : y < 16777216) : y / 262144 % 64 * 262144 + y / 4096 % 64 * 4096 + y / 64 % 64 * 64 + y % 64 = y := by omega
theorem split3 (y : Nat) (h : y < 16777216) (h2 : y % 64 = 0) : y / 262144 % 64 * 262144 + y / 4096 % 64 * 4096 + y / 64 % 64 * 64 = y := by omega
theorem split2 (y : Nat) (h : y < 16777216) (h2 : y % 4096 = 0) : y / 262144 % 64 * 262144 + y / 4096 % 64 * 4096 = y := by omega
theorem quantum_any (B D S n s m dn dc sc k : Nat) (t zk : List Nat) (w : World) (hE : EncAt B w) (hS : Cel S (b64 t) w) (hD : Buf D zk w) (hn : n = 3 * k) (hs : s = 4 * k) (hm : (b64 t).length = m)
    (hk : 3 * k < t.length) (hk2 : t.length ≤ 3 * k + 3) (ht : t.length ≤ 1000) (hlt : ∀ i, i < t.length → t.getD i 0 < 256) (hz : zk.length = 3 * k + 3) (hzk : ∀ j, j < 3 * k → zk.getD j 0 = t.getD j 0)
    (hdn : dn = 3) (hdc : 3 ≤ dc) (hsc : m ≤ sc) (hBD : B < D) (hSD : S ≠ D) :
    Calls Tryd.prog 46 #[.pointer (some ⟨B, 0, none⟩), .slice (some ⟨D, n, none⟩) dn dc, .slice (some ⟨S, 0, none⟩) m sc, .int .i64 (s : Int)] w fun e w' =>
      e = .returned (.tuple #[.int .i64 (m : Int), .int .i64 ((t.length - 3 * k : Nat) : Int), Value.nilIface]) ∧ (∃ zk' : List Nat, zk'.length = zk.length ∧ (∀ j, j < t.length → zk'.getD j 0 = t.getD j 0) ∧ Buf D zk' w') ∧ Below D w w' := by
  subst hn hs hdn
  have hb := b64_len _ t (Nat.le_refl _)
  rw [hm] at hb
  have ha := hlt (3 * k) hk
  by_cases h3 : t.length = 3 * k + 3
  · obtain ⟨y, hy⟩ : ∃ y, t.getD (3 * k) 0 * 65536 + t.getD (3 * k + 1) 0 * 256 + t.getD (3 * k + 2) 0 = y := ⟨_, rfl⟩
    have hb1 := hlt (3 * k + 1) (by omega)
    have hb2 := hlt (3 * k + 2) (by omega)
    obtain ⟨g0, g1, g2, g3⟩ := b64_three t k y (by omega) hy
    refine (quantum3_any B D S (3 * k) dc sc (4 * k) m y (y / 262144 % 64) (y / 4096 % 64) (y / 64 % 64) (y % 64) zk (b64 t) w hE hS hD hm (by omega) (by omega) (by omega) (by omega) (by omega) (by omega) g0 g1 g2 g3 (by omega) hdc hsc hBD hSD (split4 y (by omega))).mono ?_
    rintro e w' ⟨rfl, h1, h2⟩
    refine ⟨by rw [h3]; simp, ⟨_, by simp, fun j hj => ?_, h1⟩, h2⟩
    rw [getD_set _ _ _ _ (by simp; omega), getD_set _ _ _ _ (by simp; omega), getD_set _ _ _ _ (by omega)]
    split
    · rename_i e; rw [← e]; omega
    · split
      · rename_i e; rw [← e]; omega
      · split
        · rename_i e; rw [← e]; omega
        · exact hzk j (by omega)
  · by_cases h2 : t.length = 3 * k + 2
    · obtain ⟨y, hy⟩ : ∃ y, t.getD (3 * k) 0 * 65536 + t.getD (3 * k + 1) 0 * 256 = y := ⟨_, rfl⟩
      have hb1 := hlt (3 * k + 1) (by omega)
      obtain ⟨g0, g1, g2, g3⟩ := b64_two t k y h2 hy
      refine (quantum2_any B D S (3 * k) dc sc (4 * k) m y (y / 262144 % 64) (y / 4096 % 64) (y / 64 % 64) zk (b64 t) w hE hS hD hm (by omega) (by omega) (by omega) (by omega) (by omega) g0 g1 g2 g3 (by omega) hdc hsc hBD hSD (split3 y (by omega) (by omega))).mono ?_
      rintro e w' ⟨rfl, h1, h4⟩
      refine ⟨by rw [h2]; simp, ⟨_, by simp, fun j hj => ?_, h1⟩, h4⟩
      rw [getD_set _ _ _ _ (by simp; omega), getD_set _ _ _ _ (by omega)]
      split
      · rename_i e; rw [← e]; omega
      · split
        · rename_i e; rw [← e]; omega
        · exact hzk j (by omega)
    · have h1 : t.length = 3 * k + 1 := by omega
      obtain ⟨y, hy⟩ : ∃ y, t.getD (3 * k) 0 * 65536 = y := ⟨_, rfl⟩
      obtain ⟨g0, g1, g2, g3⟩ := b64_one t k y h1 hy
      refine (quantum1_any B D S (3 * k) dc sc (4 * k) m y (y / 262144 % 64) (y / 4096 % 64) zk (b64 t) w hE hS hD hm (by omega) (by omega) (by omega) (by omega) g0 g1 g2 g3 (by omega) hdc hsc hBD hSD (split2 y (by omega) (by omega))).mono ?_
      rintro e w' ⟨rfl, h5, h4⟩
      refine ⟨by rw [h1]; simp, ⟨_, by simp, fun j hj => ?_, h5⟩, h4⟩
      rw [getD_set _ _ _ _ (by omega)]
      split
      · rename_i e; rw [← e]; omega
      · exact hzk j (by omega)
end Go.Proofs.YtmfbnmjmgpafmaaDoor
