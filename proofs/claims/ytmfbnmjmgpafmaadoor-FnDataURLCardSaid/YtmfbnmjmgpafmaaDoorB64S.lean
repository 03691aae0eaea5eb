/- spec.Base64 (7) is b64. -/
import Derived.Test.YtmfbnmjmgpafmaaDoorB64P
import Derived.Test.YtmfbnmjmgpafmaaDoorDatA
import Derived.Handy
namespace Go.Proofs.YtmfbnmjmgpafmaaDoor
open Go.RowKit
set_option linter.unusedVariables false
set_option linter.unusedSimpArgs false
/-- A slice of bytes: what its cells hold. -/
def Src (g : Nat) (l : List Nat) (w : World) : Prop := ∀ j, j < l.length → w.cell? ⟨g, j, none⟩ = some (.int .u8 (l.getD j 0 : Nat))
theorem dig_text (d : Nat) (h : d < 64) : nums (alph.extract d (d + 1)) = [dg d] := by
  have : ∀ d : Fin 64, nums (alph.extract d.val (d.val + 1)) = [dg d.val] := by decide +kernel
  exact this ⟨d, h⟩
theorem and63 (v : Nat) (h : v < 18446744073709551616) : bits .and .u64 (v : Int) 63 = ((v % 64 : Nat) : Int) := by
  rw [show (63 : Int) = ((63 : Nat) : Int) from rfl, u64_and_nat v 63 h (by omega), nat_mask6]
theorem or0 (a : Nat) (h : a < 18446744073709551616) : bits .or .u64 0 (a : Int) = (a : Int) := by
  rw [show (0 : Int) = ((0 : Nat) : Int) from rfl, u64_or_nat 0 a (by omega) h, Nat.zero_or]
theorem or8 (x b : Nat) (h : x < 1099511627776) (hb : b < 256) : bits .or .u64 ((x : Int) * 256) (b : Int) = ((x * 256 + b : Nat) : Int) := by
  rw [show (x : Int) * 256 = ((x * 256 : Nat) : Int) by omega, u64_or_nat _ _ (by omega) (by omega)]
  have := Nat.two_pow_add_eq_or_of_lt (i := 8) (b := b) (by omega) x
  rw [show x * 256 = 2 ^ 8 * x by omega, this]
theorem nums_dig {o A : ByteArray} {d : Nat} (h : d < 64) : A = alph → nums (o ++ A.extract d (d + 1)) = nums o ++ [dg d] := by
  rintro rfl
  rw [append_nums]
  exact congrArg _ (dig_text d h)
theorem nums_pad (o : ByteArray) : nums (o ++ { data := #[61] }) = nums o ++ [61] := by rw [append_nums]; rfl
theorem dropG {l : List Nat} {i : Nat} (h : i < l.length) : l.drop i = l.getD i 0 :: l.drop (i + 1) := drop_getD h
set_option maxRecDepth 100000 in
set_option maxHeartbeats 16000000 in
theorem base64_any (l : List Nat) (g cap : Nat) (w : World) (hs : l.length ≤ 300) (hlt : ∀ b ∈ l, b < 256) (hsrc : Src g l w) :
    Calls Tryd.prog 7 #[.slice (some ⟨g, 0, none⟩) l.length cap] w fun e w' => (∃ q : ByteArray, nums q = b64 l ∧ e = .returned (.string q)) ∧ w' = w := by
  have HS := Lib.hid hsrc
  have HL : Hid (∀ i, i < l.length → l.getD i 0 < 256) := Lib.hid (fun i hi => hlt _ (by rw [List.getD, List.getElem?_eq_getElem hi]; exact List.getElem_mem _))
  clear hsrc hlt
  go_enter Tryd.func7, Tryd.ntmps7
  go_wp2
  go_loop [3, 4] (fun ov iv => ∃ (o : ByteArray) (i : Nat), ov = .string o ∧ iv = .int .i64 (i : Int) ∧ i ≤ l.length + 2 ∧ o.size ≤ 4 * i ∧ Hid (nums o ++ b64 (l.drop i) = b64 l)) (fun _ iv => l.length + 3 - (intOf iv).toNat)
  case atStart => exact ⟨ByteArray.empty, 0, rfl, rfl, Nat.zero_le _, Nat.le_refl _, Lib.hid rfl⟩
  case round =>
    obtain ⟨o, i, rfl, rfl, hi, ho, HO⟩ := hrel
    by_cases hlt : i < l.length
    · obtain ⟨a, ha⟩ : ∃ a, l.getD i 0 = a := ⟨_, rfl⟩
      have c0 := HS.out i hlt
      have ha2 := HL.out i hlt
      have HB := Lib.hid (dropG hlt)
      rw [ha] at c0 ha2 HB
      have z0 := or0 a (by omega)
      by_cases h1 : i + 1 < l.length
      · obtain ⟨b, hb⟩ : ∃ b, l.getD (i + 1) 0 = b := ⟨_, rfl⟩
        have c1 := HS.out (i + 1) h1
        have hb2 := HL.out (i + 1) h1
        have HB2 := Lib.hid (dropG h1)
        rw [hb] at c1 hb2 HB2
        have t1 : decide ((i : Int) + 1 < (l.length : Int)) = true := by simp; omega
        obtain ⟨x, hx⟩ : ∃ x, a * 256 + b = x := ⟨_, rfl⟩
        have z1 := or8 a b (by omega) hb2
        rw [hx] at z1
        by_cases h2 : i + 2 < l.length
        · obtain ⟨c, hc⟩ : ∃ c, l.getD (i + 2) 0 = c := ⟨_, rfl⟩
          have c2 := HS.out (i + 2) h2
          have hc2 := HL.out (i + 2) h2
          have HB3 := Lib.hid (dropG h2)
          rw [hc] at c2 hc2 HB3
          have t2 : decide ((i : Int) + 2 < (l.length : Int)) = true := by simp; omega
          obtain ⟨y, hy⟩ : ∃ y, x * 256 + c = y := ⟨_, rfl⟩
          have z2 := or8 x c (by omega) hc2
          rw [hy] at z2
          obtain ⟨d0, hd0⟩ : ∃ d, (a * 65536 + b * 256 + c) / 262144 % 64 = d := ⟨_, rfl⟩
          have l0 : d0 < 64 := by omega
          have y0 : bits .and .u64 (((y : Int)) / 262144) 63 = (d0 : Int) := by rw [show ((y : Int)) / 262144 = (((a * 65536 + b * 256 + c) / 262144 : Nat) : Int) by omega, and63 _ (by omega), hd0]
          obtain ⟨d1, hd1⟩ : ∃ d, (a * 65536 + b * 256 + c) / 4096 % 64 = d := ⟨_, rfl⟩
          have l1 : d1 < 64 := by omega
          have y1 : bits .and .u64 (((y : Int)) / 4096) 63 = (d1 : Int) := by rw [show ((y : Int)) / 4096 = (((a * 65536 + b * 256 + c) / 4096 : Nat) : Int) by omega, and63 _ (by omega), hd1]
          obtain ⟨d2, hd2⟩ : ∃ d, (a * 65536 + b * 256 + c) / 64 % 64 = d := ⟨_, rfl⟩
          have l2 : d2 < 64 := by omega
          have y2 : bits .and .u64 (((y : Int)) / 64) 63 = (d2 : Int) := by rw [show ((y : Int)) / 64 = (((a * 65536 + b * 256 + c) / 64 : Nat) : Int) by omega, and63 _ (by omega), hd2]
          obtain ⟨d3, hd3⟩ : ∃ d, (a * 65536 + b * 256 + c) % 64 = d := ⟨_, rfl⟩
          have l3 : d3 < 64 := by omega
          have y3 : bits .and .u64 ((y : Int)) 63 = (d3 : Int) := by rw [show ((y : Int)) = (((a * 65536 + b * 256 + c) : Nat) : Int) by omega, and63 _ (by omega), hd3]
          have HC : Hid (nums o ++ ([dg d0, dg d1, dg d2, dg d3] ++ b64 (l.drop (i + 3))) = b64 l) := Lib.hid (by rw [← HO.out, HB.out, HB2.out, HB3.out, b64, hd0, hd1, hd2, hd3]; rfl)
          clear ha HB hb hc
          go_wp2_with fail
          go_rounds 4
          go_rounds 5
          go_round
          case rel => exact ⟨_, i + 3, rfl, by go_num, by omega, by rw [← nums_len] at ho ⊢; rw [nums_dig l3, nums_dig l2, nums_dig l1, nums_dig l0]; (simp; omega); all_goals rfl, Lib.hid (by rw [← HC.out, nums_dig l3, nums_dig l2, nums_dig l1, nums_dig l0]; (simp [List.append_assoc]); all_goals rfl)⟩
          case measure => simp [intOf]; omega
        · have t2 : decide ((i : Int) + 2 < (l.length : Int)) = false := by simp; omega
          have HB3 : Hid (l.drop (i + 1 + 1) = []) := Lib.hid (List.drop_eq_nil_of_le (by omega))
          have HB4 : Hid (l.drop (i + 3) = []) := Lib.hid (List.drop_eq_nil_of_le (by omega))
          obtain ⟨d0, hd0⟩ : ∃ d, (a * 65536 + b * 256) / 262144 % 64 = d := ⟨_, rfl⟩
          have l0 : d0 < 64 := by omega
          have y0 : bits .and .u64 (((x : Int) * 256) / 262144) 63 = (d0 : Int) := by rw [show ((x : Int) * 256) / 262144 = (((a * 65536 + b * 256) / 262144 : Nat) : Int) by omega, and63 _ (by omega), hd0]
          obtain ⟨d1, hd1⟩ : ∃ d, (a * 65536 + b * 256) / 4096 % 64 = d := ⟨_, rfl⟩
          have l1 : d1 < 64 := by omega
          have y1 : bits .and .u64 (((x : Int) * 256) / 4096) 63 = (d1 : Int) := by rw [show ((x : Int) * 256) / 4096 = (((a * 65536 + b * 256) / 4096 : Nat) : Int) by omega, and63 _ (by omega), hd1]
          obtain ⟨d2, hd2⟩ : ∃ d, (a * 65536 + b * 256) / 64 % 64 = d := ⟨_, rfl⟩
          have l2 : d2 < 64 := by omega
          have y2 : bits .and .u64 (((x : Int) * 256) / 64) 63 = (d2 : Int) := by rw [show ((x : Int) * 256) / 64 = (((a * 65536 + b * 256) / 64 : Nat) : Int) by omega, and63 _ (by omega), hd2]
          have HC : Hid (nums o ++ ([dg d0, dg d1, dg d2, 61] ++ b64 (l.drop (i + 3))) = b64 l) := Lib.hid (by rw [← HO.out, HB.out, HB2.out, HB3.out, HB4.out, b64, hd0, hd1, hd2]; rfl)
          clear ha HB hb
          go_wp2_with fail
          go_rounds 4
          go_rounds 5
          go_round
          case rel => exact ⟨_, i + 3, rfl, by go_num, by omega, by rw [← nums_len] at ho ⊢; rw [nums_pad, nums_dig l2, nums_dig l1, nums_dig l0]; (simp; omega); all_goals rfl, Lib.hid (by rw [← HC.out, nums_pad, nums_dig l2, nums_dig l1, nums_dig l0]; (simp [List.append_assoc]); all_goals rfl)⟩
          case measure => simp [intOf]; omega
      · have t1 : decide ((i : Int) + 1 < (l.length : Int)) = false := by simp; omega
        have t2 : decide ((i : Int) + 2 < (l.length : Int)) = false := by simp; omega
        have HB2 : Hid (l.drop (i + 1) = []) := Lib.hid (List.drop_eq_nil_of_le (by omega))
        have HB4 : Hid (l.drop (i + 3) = []) := Lib.hid (List.drop_eq_nil_of_le (by omega))
        obtain ⟨d0, hd0⟩ : ∃ d, (a * 65536) / 262144 % 64 = d := ⟨_, rfl⟩
        have l0 : d0 < 64 := by omega
        have y0 : bits .and .u64 (((a : Int) * 256 * 256) / 262144) 63 = (d0 : Int) := by rw [show ((a : Int) * 256 * 256) / 262144 = (((a * 65536) / 262144 : Nat) : Int) by omega, and63 _ (by omega), hd0]
        obtain ⟨d1, hd1⟩ : ∃ d, (a * 65536) / 4096 % 64 = d := ⟨_, rfl⟩
        have l1 : d1 < 64 := by omega
        have y1 : bits .and .u64 (((a : Int) * 256 * 256) / 4096) 63 = (d1 : Int) := by rw [show ((a : Int) * 256 * 256) / 4096 = (((a * 65536) / 4096 : Nat) : Int) by omega, and63 _ (by omega), hd1]
        have HC : Hid (nums o ++ ([dg d0, dg d1, 61, 61] ++ b64 (l.drop (i + 3))) = b64 l) := Lib.hid (by rw [← HO.out, HB.out, HB2.out, HB4.out, b64, hd0, hd1]; rfl)
        clear ha HB
        go_wp2_with fail
        go_rounds 4
        go_rounds 5
        go_round
        case rel => exact ⟨_, i + 3, rfl, by go_num, by omega, by rw [← nums_len] at ho ⊢; rw [nums_pad, nums_pad, nums_dig l1, nums_dig l0]; (simp; omega); all_goals rfl, Lib.hid (by rw [← HC.out, nums_pad, nums_pad, nums_dig l1, nums_dig l0]; (simp [List.append_assoc]); all_goals rfl)⟩
        case measure => simp [intOf]; omega
    · have HE : Hid (nums o = b64 l) := Lib.hid (by rw [← HO.out, List.drop_eq_nil_of_le (by omega)]; simp [b64])
      go_wp2_with fail
      go_ret
      exact ⟨⟨o, HE.out, rfl⟩, rfl⟩
end Go.Proofs.YtmfbnmjmgpafmaaDoor
