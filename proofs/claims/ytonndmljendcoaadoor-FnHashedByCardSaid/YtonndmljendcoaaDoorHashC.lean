/- What the small functions of the hash tell: turns, rounds, words out of bytes. -/
import Derived.Test.YtonndmljendcoaaDoorHashP
import Derived.Test.YtonndmljendcoaaDoorRows
import Derived.Test.YtonndmljendcoaaDoorShelf
import Derived.WalkKit
import Derived.WalkSpells
import Derived.WalkLawsBesides
import Derived.LoopTactic
import Derived.Outline
import Derived.Lib.Hide
import Derived.OneCell
import Derived.Deep.QuietTactic
import Derived.BigQuiet
namespace Go.Proofs.YtonndmljendcoaaDoor
open Go.RowKit
set_option linter.unusedVariables false
set_option linter.unusedSimpArgs false
theorem ret_u64 {a b : Int} (h : a = b) : Ending.returned (.int .u64 a) = .returned (.int .u64 b) := by rw [h]
set_option maxRecDepth 100000 in
set_option maxHeartbeats 2000000 in
theorem rot_any (x : UInt64) (n : Nat) (hn : n < 64) (hn0 : 0 < n) (w : World) :
    Calls Tryd.prog 37 #[.int .u64 (x.toNat : Int), .int .i64 (n : Int)] w fun e w' => e = .returned (.int .u64 ((rotl x n).toNat : Int)) ∧ w = w' := by
  have HR := Lib.hid (rotl_nat x n (by omega))
  have hb1 : x.toNat * 2 ^ n % 2 ^ 64 < 2 ^ 64 := Nat.mod_lt _ (by decide)
  have hb2 : x.toNat / 2 ^ (64 - n) < 2 ^ 64 := Nat.lt_of_le_of_lt (Nat.div_le_self _ _) x.toNat_lt
  obtain ⟨A, hA⟩ : ∃ A, A = x.toNat * 2 ^ n % 2 ^ 64 := ⟨_, rfl⟩
  obtain ⟨B, hB⟩ : ∃ B, B = x.toNat / 2 ^ (64 - n) := ⟨_, rfl⟩
  have ha : bits .and .u64 (n : Int) 63 = (n : Int) := by rw [show (63 : Int) = ((63 : Nat) : Int) from rfl, u64_and_nat n 63 (by omega) (by omega), nat_mask6, Nat.mod_eq_of_lt hn]
  have hc : IntKind.u64.wrap (n : Int) = (n : Int) := by rw [IntKind.wrap_u64]; omega
  have hs1 : IntKind.u64.wrap ((x.toNat : Int) * 2 ^ n) = (A : Int) := by rw [w_shl', ← hA]
  have hs2 : (x.toNat : Int) / 2 ^ (64 - n) = (B : Int) := by rw [w_shr, ← hB]
  have ho := w_or A B (by rw [hA]; exact hb1) (by rw [hB]; exact hb2)
  rw [← hA, ← hB] at HR
  clear hA hB hb1 hb2
  go_enter Tryd.func37, Tryd.ntmps37
  go_wp2
  go_ret
  exact ⟨ret_u64 (by rw [HR.out]), rfl⟩
set_option maxRecDepth 100000 in
theorem rol1_any (x : UInt64) (w : World) : Calls Tryd.prog 23 #[.int .u64 (x.toNat : Int)] w fun e w' => e = .returned (.int .u64 ((rotl x 1).toNat : Int)) ∧ w = w' := by
  have C := fun w => rot_any x 1 (by decide) (by decide) w
  have C := Lib.hid C
  go_enter Tryd.func23, Tryd.ntmps23
  go_wp2_with (go_at_call 37; refine (C.out _).mono ?_; rintro e w' ⟨rfl, rfl⟩)
  go_ret
  exact ⟨rfl, rfl⟩
set_option maxRecDepth 100000 in
theorem rol7_any (x : UInt64) (w : World) : Calls Tryd.prog 24 #[.int .u64 (x.toNat : Int)] w fun e w' => e = .returned (.int .u64 ((rotl x 7).toNat : Int)) ∧ w = w' := by
  have C := fun w => rot_any x 7 (by decide) (by decide) w
  have C := Lib.hid C
  go_enter Tryd.func24, Tryd.ntmps24
  go_wp2_with (go_at_call 37; refine (C.out _).mono ?_; rintro e w' ⟨rfl, rfl⟩)
  go_ret
  exact ⟨rfl, rfl⟩
set_option maxRecDepth 100000 in
theorem rol12_any (x : UInt64) (w : World) : Calls Tryd.prog 25 #[.int .u64 (x.toNat : Int)] w fun e w' => e = .returned (.int .u64 ((rotl x 12).toNat : Int)) ∧ w = w' := by
  have C := fun w => rot_any x 12 (by decide) (by decide) w
  have C := Lib.hid C
  go_enter Tryd.func25, Tryd.ntmps25
  go_wp2_with (go_at_call 37; refine (C.out _).mono ?_; rintro e w' ⟨rfl, rfl⟩)
  go_ret
  exact ⟨rfl, rfl⟩
set_option maxRecDepth 100000 in
theorem rol18_any (x : UInt64) (w : World) : Calls Tryd.prog 26 #[.int .u64 (x.toNat : Int)] w fun e w' => e = .returned (.int .u64 ((rotl x 18).toNat : Int)) ∧ w = w' := by
  have C := fun w => rot_any x 18 (by decide) (by decide) w
  have C := Lib.hid C
  go_enter Tryd.func26, Tryd.ntmps26
  go_wp2_with (go_at_call 37; refine (C.out _).mono ?_; rintro e w' ⟨rfl, rfl⟩)
  go_ret
  exact ⟨rfl, rfl⟩
set_option maxRecDepth 100000 in
theorem rol27_any (x : UInt64) (w : World) : Calls Tryd.prog 28 #[.int .u64 (x.toNat : Int)] w fun e w' => e = .returned (.int .u64 ((rotl x 27).toNat : Int)) ∧ w = w' := by
  have C := fun w => rot_any x 27 (by decide) (by decide) w
  have C := Lib.hid C
  go_enter Tryd.func28, Tryd.ntmps28
  go_wp2_with (go_at_call 37; refine (C.out _).mono ?_; rintro e w' ⟨rfl, rfl⟩)
  go_ret
  exact ⟨rfl, rfl⟩
set_option maxRecDepth 100000 in
theorem rol23_any (x : UInt64) (w : World) : Calls Tryd.prog 30 #[.int .u64 (x.toNat : Int)] w fun e w' => e = .returned (.int .u64 ((rotl x 23).toNat : Int)) ∧ w = w' := by
  have C := fun w => rot_any x 23 (by decide) (by decide) w
  have C := Lib.hid C
  go_enter Tryd.func30, Tryd.ntmps30
  go_wp2_with (go_at_call 37; refine (C.out _).mono ?_; rintro e w' ⟨rfl, rfl⟩)
  go_ret
  exact ⟨rfl, rfl⟩
set_option maxRecDepth 100000 in
theorem rol11_any (x : UInt64) (w : World) : Calls Tryd.prog 31 #[.int .u64 (x.toNat : Int)] w fun e w' => e = .returned (.int .u64 ((rotl x 11).toNat : Int)) ∧ w = w' := by
  have C := fun w => rot_any x 11 (by decide) (by decide) w
  have C := Lib.hid C
  go_enter Tryd.func31, Tryd.ntmps31
  go_wp2_with (go_at_call 37; refine (C.out _).mono ?_; rintro e w' ⟨rfl, rfl⟩)
  go_ret
  exact ⟨rfl, rfl⟩
set_option maxRecDepth 100000 in
theorem rol31_any (x : UInt64) (w : World) : Calls Tryd.prog 35 #[.int .u64 (x.toNat : Int)] w fun e w' => e = .returned (.int .u64 ((rotl x 31).toNat : Int)) ∧ w = w' := by
  have C := fun w => rot_any x 31 (by decide) (by decide) w
  have C := Lib.hid C
  go_enter Tryd.func35, Tryd.ntmps35
  go_wp2_with (go_at_call 37; refine (C.out _).mono ?_; rintro e w' ⟨rfl, rfl⟩)
  go_ret
  exact ⟨rfl, rfl⟩
theorem m_P1 (a : UInt64) : IntKind.u64.wrap ((a.toNat : Int) * 11400714785074694791) = ((mW a P1).toNat : Int) := w_mul a P1
theorem m_P2 (a : UInt64) : IntKind.u64.wrap ((a.toNat : Int) * 14029467366897019727) = ((mW a P2).toNat : Int) := w_mul a P2
theorem m_P3 (a : UInt64) : IntKind.u64.wrap ((a.toNat : Int) * 1609587929392839161) = ((mW a P3).toNat : Int) := w_mul a P3
theorem m_P5 (a : UInt64) : IntKind.u64.wrap ((a.toNat : Int) * 2870177450012600261) = ((mW a P5).toNat : Int) := w_mul a P5
theorem a_P3 (a : UInt64) : IntKind.u64.wrap ((a.toNat : Int) + 1609587929392839161) = ((aW a P3).toNat : Int) := w_add a P3
theorem a_P4 (a : UInt64) : IntKind.u64.wrap ((a.toNat : Int) + 9650029242287828579) = ((aW a P4).toNat : Int) := w_add a P4
theorem a_P5 (a : UInt64) : IntKind.u64.wrap ((a.toNat : Int) + 2870177450012600261) = ((aW a P5).toNat : Int) := w_add a P5
set_option maxRecDepth 100000 in
theorem round_any (a b : UInt64) (w : World) : Calls Tryd.prog 21 #[.int .u64 (a.toNat : Int), .int .u64 (b.toNat : Int)] w fun e w' => e = .returned (.int .u64 ((rnd a b).toNat : Int)) ∧ w = w' := by
  have C := Lib.hid (fun x w => rol31_any x w)
  have h1 := m_P2
  have h2 := w_add
  have h3 := m_P1
  go_enter Tryd.func21, Tryd.ntmps21
  go_wp2_with (go_at_call 35; refine (C.out _ _).mono ?_; rintro e w' ⟨rfl, rfl⟩)
  go_ret
  exact ⟨rfl, rfl⟩
set_option maxRecDepth 100000 in
theorem merge_any (a b : UInt64) (w : World) : Calls Tryd.prog 27 #[.int .u64 (a.toNat : Int), .int .u64 (b.toNat : Int)] w fun e w' => e = .returned (.int .u64 ((mrg a b).toNat : Int)) ∧ w = w' := by
  have C := Lib.hid (fun x y w => round_any x y w)
  have h1 := w_xor
  have h2 := a_P4
  have h3 := m_P1
  go_enter Tryd.func27, Tryd.ntmps27
  go_wp2_with (go_at_call 21; refine (C.out zW _ _).mono ?_; rintro e w' ⟨rfl, rfl⟩)
  go_ret
  exact ⟨rfl, rfl⟩
set_option maxRecDepth 100000 in
set_option maxHeartbeats 2000000 in
theorem turn_any (x : UInt64) (n : Nat) (hn : n < 64) (hn0 : 0 < n) (w : World) :
    Calls Tryd.prog 13 #[.int .u64 (x.toNat : Int), .int .i64 (n : Int)] w fun e w' => e = .returned (.int .u64 ((rotl x n).toNat : Int)) ∧ ∃ m, w' = w.drewN m := by
  have HR := Lib.hid (rotl_nat x n (by omega))
  have hb1 : x.toNat * 2 ^ n % 2 ^ 64 < 2 ^ 64 := Nat.mod_lt _ (by decide)
  have hb2 : x.toNat / 2 ^ (64 - n) < 2 ^ 64 := Nat.lt_of_le_of_lt (Nat.div_le_self _ _) x.toNat_lt
  obtain ⟨A, hA⟩ : ∃ A, A = x.toNat * 2 ^ n % 2 ^ 64 := ⟨_, rfl⟩
  obtain ⟨B, hB⟩ : ∃ B, B = x.toNat / 2 ^ (64 - n) := ⟨_, rfl⟩
  have hs1 : IntKind.u64.wrap ((x.toNat : Int) * 2 ^ n) = (A : Int) := by rw [w_shl', ← hA]
  have hs2 : (x.toNat : Int) / 2 ^ (64 - n) = (B : Int) := by rw [w_shr, ← hB]
  have ho := w_or A B (by rw [hA]; exact hb1) (by rw [hB]; exact hb2)
  rw [← hA, ← hB] at HR
  clear hA hB hb1 hb2
  go_enter Tryd.func13, Tryd.ntmps13
  go_wp2
  go_quiet (fail)
  go_wp2
  go_ret
  exact ⟨ret_u64 (by rw [HR.out]), ⟨_, rfl⟩⟩
set_option maxRecDepth 100000 in
theorem u64_any (g o n c : Nat) (l : List UInt8) (w : World) (hn : 8 ≤ n) (hl : 8 ≤ l.length) (hc : ∀ j (h : j < l.length), w.cell? ⟨g, o + j, none⟩ = some (.int .u8 ((l[j]'h).toNat : Int))) :
    Calls Tryd.prog 22 #[.slice (some ⟨g, o, none⟩) n c] w fun e w' => e = .returned (.int .u64 ((le8 l).toNat : Int)) ∧ Below w.heap.size w w' := by
  have C : Calls Tryd.prog 36 #[.agg #[], .slice (some ⟨g, o, none⟩) n c] w fun e w' => e = .returned (.int .u64 ((le8 l).toNat : Int)) ∧ Below w.heap.size w w' := by
    rw [le8_nat]
    match l, hl, hc with
    | b0 :: b1 :: b2 :: b3 :: b4 :: b5 :: b6 :: b7 :: r, _, hc => exact Tryd.binary_LE_Uint64 g o n c b0 b1 b2 b3 b4 b5 b6 b7 w hn (hc 0 (by simp)) (hc 1 (by simp)) (hc 2 (by simp)) (hc 3 (by simp)) (hc 4 (by simp)) (hc 5 (by simp)) (hc 6 (by simp)) (hc 7 (by simp))
  have C := Lib.hid C
  clear hc hl
  go_enter Tryd.func22, Tryd.ntmps22
  go_wp2_with (go_at_call 36; refine C.out.mono ?_; rintro e w' ⟨rfl, hb⟩)
  go_ret
  exact ⟨rfl, hb⟩
set_option maxRecDepth 100000 in
theorem u32_any (g o n c : Nat) (l : List UInt8) (w : World) (hn : 4 ≤ n) (hl : 4 ≤ l.length) (hc : ∀ j (h : j < l.length), w.cell? ⟨g, o + j, none⟩ = some (.int .u8 ((l[j]'h).toNat : Int))) :
    Calls Tryd.prog 29 #[.slice (some ⟨g, o, none⟩) n c] w fun e w' => e = .returned (.int .u32 ((le4 l).toNat : Int)) ∧ Below w.heap.size w w' := by
  have C : Calls Tryd.prog 38 #[.agg #[], .slice (some ⟨g, o, none⟩) n c] w fun e w' => e = .returned (.int .u32 ((le4 l).toNat : Int)) ∧ Below w.heap.size w w' := by
    rw [le4_nat]
    match l, hl, hc with
    | b0 :: b1 :: b2 :: b3 :: r, _, hc => exact Tryd.binary_LE_Uint32 g o n c b0 b1 b2 b3 w hn (hc 0 (by simp)) (hc 1 (by simp)) (hc 2 (by simp)) (hc 3 (by simp))
  have C := Lib.hid C
  clear hc hl
  go_enter Tryd.func29, Tryd.ntmps29
  go_wp2_with (go_at_call 38; refine C.out.mono ?_; rintro e w' ⟨rfl, hb⟩)
  go_ret
  exact ⟨rfl, hb⟩
set_option maxRecDepth 100000 in
theorem step1_any (a b : UInt64) (w : World) : Calls Tryd.prog 11 #[.int .u64 (a.toNat : Int), .int .u64 (b.toNat : Int)] w fun e w' => e = .returned (.int .u64 ((rnd a b).toNat : Int)) ∧ ∃ m, w' = w.drewN m := by
  have C := Lib.hid (fun x w => turn_any x 31 (by decide) (by decide) w)
  have h1 := m_P2
  have h2 := w_add
  have h3 := m_P1
  go_enter Tryd.func11, Tryd.ntmps11
  go_wp2_with (go_at_call 13; refine (C.out _ _).mono ?_; rintro e w' ⟨rfl, m, rfl⟩)
  go_ret
  exact ⟨rfl, _, rfl⟩
theorem le_step (l : List UInt8) (k : Nat) (h : k < l.length) : Lib.leNat ((l.take 8).drop k) = 0 ∨ True := .inr trivial
theorem drop_le (l : List UInt8) (k : Nat) (hk : k < 8) (h : k < l.length) : Lib.leNat ((l.take 8).drop k) = (l[k]'h).toNat + 256 * Lib.leNat ((l.take 8).drop (k + 1)) := by
  rw [List.drop_eq_getElem_cons (by simp; omega)]
  simp [Lib.leNat]
theorem drop_lt (l : List UInt8) (k : Nat) (hk : 1 ≤ k) : Lib.leNat ((l.take 8).drop k) < 72057594037927936 := by
  have h1 := leNat_lt ((l.take 8).drop k)
  have h2 : ((l.take 8).drop k).length ≤ 7 := by simp; omega
  have h3 : 256 ^ ((l.take 8).drop k).length ≤ 256 ^ 7 := Nat.pow_le_pow_right (by decide) h2
  have : 256 ^ 7 = 72057594037927936 := by decide
  omega
theorem or_byte (A b : Nat) (hb : b < 256) (hA : A < 72057594037927936) : bits .or .u64 ((A : Int) * 256) (b : Int) = ((b + 256 * A : Nat) : Int) := by
  have h1 := u64_or_nat (256 * A) b (by omega) (by omega)
  rw [show ((A : Int) * 256) = ((256 * A : Nat) : Int) by omega]
  refine h1.trans ?_
  have h2 := Nat.two_pow_add_eq_or_of_lt (i := 8) (b := b) (by omega) A
  rw [show (256 * A ||| b) = 2 ^ 8 * A ||| b from rfl, ← h2]
  omega
set_option maxRecDepth 100000 in
set_option maxHeartbeats 2000000 in
theorem eight_any (g o n c : Nat) (l : List UInt8) (w : World) (hn : l.length = n) (hl : 8 ≤ n) (hn2 : n ≤ 9223372036854775807) (hc : ∀ j (h : j < l.length), w.cell? ⟨g, o + j, none⟩ = some (.int .u8 ((l[j]'h).toNat : Int))) :
    Calls Tryd.prog 12 #[.slice (some ⟨g, o, none⟩) n c] w fun e w' => e = .returned (.int .u64 ((le8 l).toNat : Int)) ∧ w = w' := by
  have HR := Lib.hid (le8_nat l)
  have HC := Lib.hid hc
  have HN := Lib.hid hn
  clear hc hn
  go_enter Tryd.func12, Tryd.ntmps12
  go_wp2
  go_loop [3, 4] (fun v i => ∃ k A : Nat, k ≤ 8 ∧ i = .int .i64 ((k : Int) - 1) ∧ v = .int .u64 (A : Int) ∧ Hid (A = Lib.leNat ((l.take 8).drop k))) (fun _ i => (intOf i + 1).toNat)
  case atStart => exact ⟨8, 0, Nat.le_refl _, rfl, rfl, by unfold Hid; rw [List.drop_eq_nil_of_le (List.length_take_le _ _)]; rfl⟩
  case round =>
    obtain ⟨k, A, hk, rfl, rfl, HA⟩ := hrel
    by_cases h0 : k = 0
    · subst h0
      go_wp2_with fail
      go_ret
      exact ⟨ret_u64 (by rw [HR.out, HA.out, List.drop_zero]), rfl⟩
    · obtain ⟨j, rfl⟩ : ∃ j, k = j + 1 := ⟨k - 1, by omega⟩
      have hjl : j < l.length := by rw [HN.out]; omega
      have cj := HC.out j hjl
      have hd := drop_le l j (by omega) hjl
      have hA7 := drop_lt l (j + 1) (by omega)
      rw [← HA.out] at hd hA7
      obtain ⟨b, hb⟩ : ∃ b, b = (l[j]'hjl).toNat := ⟨_, rfl⟩
      have hb256 : b < 256 := by rw [hb]; exact UInt8.toNat_lt _
      rw [← hb] at cj hd
      have ho := or_byte A b hb256 hA7
      have hj1 : (((j + 1 : Nat) : Int) - 1) = (j : Int) := by omega
      have HD := Lib.hid hd
      clear hd hb
      rw [hj1]
      go_wp2_with fail
      go_round
      case rel => exact ⟨j, _, by omega, rfl, rfl, HD.out.symm⟩
      case measure => simp [intOf]
end Go.Proofs.YtonndmljendcoaaDoor
