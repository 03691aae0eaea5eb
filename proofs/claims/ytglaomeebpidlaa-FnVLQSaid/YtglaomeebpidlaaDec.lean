/- What sourcemap.DecodeVLQ tells of the letters of digits. -/
import Derived.Test.YtglaomeebpidlaaEnc
import Derived.Test.YtglaomeebpidlaaShelf
import Derived.Laws.BitsAllLaws
import Derived.Deep.QuietTactic
import Derived.BigQuiet
namespace Go.Proofs.Ytglaomeebpidlaa
open Go.RowKit
set_option linter.unusedVariables false
set_option linter.unusedSimpArgs false
theorem idx_letter (d : Nat) (h : d < 64) : Lib.indexByte alpha.data.toList (letter d) = (d : Int) := by
  have : ∀ d : Fin 64, Lib.indexByte alpha.data.toList (letter d.1) = (d.1 : Int) := by decide +kernel
  exact this ⟨d, h⟩
theorem idx_any (q : Nat) (h : q < 64) (w : World) : Calls Try.prog 13 #[.string alpha, .int .u8 ((letter q).toNat : Int)] w fun e w' => e = .returned (.int .i64 (q : Int)) ∧ w = w' := by
  refine (Try.strings_IndexByte alpha ((letter q).toNat : Int) w).mono ?_
  rintro e w' ⟨rfl, rfl⟩
  refine ⟨?_, rfl⟩
  rw [show (((letter q).toNat : Int).toNat.toUInt8) = letter q by simp, idx_letter q h]
theorem digs_pos (V : Nat) : 0 < (digs V).length := by
  by_cases h : V < 32
  · rw [digs_last h]; simp
  · rw [digs_more (by omega)]; simp
theorem and_i64 (a b : Nat) (ha : a < 9223372036854775808) (hb : b < 9223372036854775808) : bits .and .i64 (a : Int) (b : Int) = ((a &&& b : Nat) : Int) := by
  have hx : a &&& b < 2 ^ 63 := Nat.and_lt_two_pow _ (by omega)
  have h1 := ofInt_u64 a (by omega)
  have h2 := ofInt_u64 b (by omega)
  show IntKind.i64.wrap ((BitVec.ofInt 64 (a : Int) &&& BitVec.ofInt 64 (b : Int)).toNat : Int) = _
  rw [BitVec.toNat_and, h1, h2, IntKind.wrap_i64]
  omega
theorem or_i64 (a b : Nat) (ha : a < 9223372036854775808) (hb : b < 9223372036854775808) : bits .or .i64 (a : Int) (b : Int) = ((a ||| b : Nat) : Int) := by
  have hx : a ||| b < 2 ^ 63 := Nat.or_lt_two_pow (by omega) (by omega)
  have h1 := ofInt_u64 a (by omega)
  have h2 := ofInt_u64 b (by omega)
  show IntKind.i64.wrap ((BitVec.ofInt 64 (a : Int) ||| BitVec.ofInt 64 (b : Int)).toNat : Int) = _
  rw [BitVec.toNat_or, h1, h2, IntKind.wrap_i64]
  omega
theorem and_i32 (a b : Nat) (ha : a < 2147483648) (hb : b < 2147483648) : bits .and .i32 (a : Int) (b : Int) = ((a &&& b : Nat) : Int) := by
  have hx : a &&& b < 2 ^ 31 := Nat.and_lt_two_pow _ (by omega)
  have h1 := ofInt_u32 a (by omega)
  have h2 := ofInt_u32 b (by omega)
  show IntKind.i32.wrap ((BitVec.ofInt 32 (a : Int) &&& BitVec.ofInt 32 (b : Int)).toNat : Int) = _
  rw [BitVec.toNat_and, h1, h2, IntKind.wrap_i32]
  omega
theorem or_i32 (a b : Nat) (ha : a < 2147483648) (hb : b < 2147483648) : bits .or .i32 (a : Int) (b : Int) = ((a ||| b : Nat) : Int) := by
  have hx : a ||| b < 2 ^ 31 := Nat.or_lt_two_pow (by omega) (by omega)
  have h1 := ofInt_u32 a (by omega)
  have h2 := ofInt_u32 b (by omega)
  show IntKind.i32.wrap ((BitVec.ofInt 32 (a : Int) ||| BitVec.ofInt 32 (b : Int)).toNat : Int) = _
  rw [BitVec.toNat_or, h1, h2, IntKind.wrap_i32]
  omega
/-- The number that V is the code of. -/
def numOf (V : Nat) : Int := if V % 2 = 1 then -((V / 2 : Nat) : Int) else ((V / 2 : Nat) : Int)
/-- One more digit. -/
theorem step_eq (A q d p : Nat) (hd : d = q % 32) (sh : Nat) (hp : p = 2 ^ sh) (hA : A < p) : A ||| (d * p) = A + d * p := by
  subst hp
  exact or_free A d sh hA
theorem at_letter {E rest : List UInt8} {st q : Nat} {t : List Nat} (hE : E.drop st = letters (q :: t) ++ rest) : ∃ h : st < E.length, E[st] = letter q ∧ E.drop (st + 1) = letters t ++ rest := by
  have hlt : st < E.length := by
    rcases Nat.lt_or_ge st E.length with h | h
    · exact h
    · rw [List.drop_eq_nil_of_le h] at hE; simp [letters] at hE
  rw [List.drop_eq_getElem_cons hlt] at hE
  simp only [letters, List.map_cons, List.cons_append, List.cons.injEq] at hE
  exact ⟨hlt, hE.1, hE.2⟩
theorem ret_two {a b c d : Int} (h1 : a = b) (h2 : c = d) : Ending.returned (.tuple #[.int .i64 a, .int .i64 c]) = .returned (.tuple #[.int .i64 b, .int .i64 d]) := by rw [h1, h2]
theorem shl_wrap (d p sh : Nat) (hp : p = 2 ^ sh) (hs : sh ≤ 63) (hb : d * p < 9223372036854775808) : IntKind.i64.wrap ((d : Int) * 2 ^ min sh 64) = ((d * p : Nat) : Int) := by
  rw [Nat.min_eq_left (by omega), IntKind.wrap_i64]
  have : ((d : Int) * 2 ^ sh) = ((d * p : Nat) : Int) := by subst hp; simp
  rw [this]
  omega
set_option maxRecDepth 100000 in
set_option maxHeartbeats 4000000 in
theorem dec_any (b off n cap : Nat) (E rest : List UInt8) (V st : Nat) (w : World) (hn : E.length = n) (hn2 : n ≤ 1000) (hc : ∀ j (h : j < E.length), w.cell? ⟨b, off + j, none⟩ = some (.int .u8 ((E[j]'h).toNat : Int)))
    (hE : E.drop st = letters (digs V) ++ rest) (hV : V < 2147483648) :
    Calls Try.prog 10 #[.slice (some ⟨b, off, none⟩) n cap, .int .i64 st] w fun e w' => e = .returned (.tuple #[.int .i64 (numOf V), .int .i64 ((st + (digs V).length : Nat) : Int)]) ∧ w = w' := by
  have HC := Lib.hid hc
  have HN := Lib.hid hn
  clear hc hn
  have hdl := digs_len V 6 (by omega)
  have HE := Lib.hid hE
  clear hE
  obtain ⟨L, hL⟩ : ∃ L, L = (digs V).length := ⟨_, rfl⟩
  rw [← hL] at hdl
  have HL := Lib.hid hL
  rw [show ((st + (digs V).length : Nat) : Int) = ((st + L : Nat) : Int) by rw [hL]]
  clear hL
  go_enter Try.func10, Try.ntmps10
  go_wp2_with fail
  go_loop [1, 6, 7] (fun s h a => ∃ k x A sh p : Nat, s = .int .i64 ((st + k : Nat) : Int) ∧ h = .int .i64 (sh : Int) ∧ a = .int .i64 (A : Int) ∧ k + 1 ≤ L ∧ Hid (k + (digs x).length = L) ∧ Hid (E.drop (st + k) = letters (digs x) ++ rest) ∧ sh = 5 * k ∧ Hid (p = 2 ^ sh) ∧ A < p ∧ Hid (A + x * p = V)) (fun s _ _ => st + L - (intOf s).toNat)
  case atStart => exact ⟨0, V, 0, 0, 1, rfl, rfl, rfl, by have := HL.out; have h1 := digs_pos V; omega, by unfold Hid; rw [HL.out]; omega, HE.out, rfl, rfl, by omega, by unfold Hid; omega⟩
  case round =>
    obtain ⟨k, x, A, sh, p, rfl, rfl, rfl, hk, HK, HD, hsh, HP, hA, HV⟩ := hrel
    obtain ⟨q, t, hq, hq64⟩ : ∃ q t, digs x = q :: t ∧ q < 64 := by
      have h64 := digs_lt x
      cases h : digs x with
      | nil => exfalso; by_cases h2 : x < 32 <;> first | (rw [digs_last h2] at h; simp at h) | (rw [digs_more (by omega)] at h; simp at h)
      | cons q t => exact ⟨q, t, rfl, h64 q (by rw [h]; exact List.mem_cons_self ..)⟩
    have hD := HD.out
    rw [hq] at hD
    obtain ⟨hlt, hat, hnx⟩ := at_letter hD
    have c1 := HC.out (st + k) hlt
    rw [hat] at c1
    have hlt2 : st + k < n := by rw [← HN.out]; exact hlt
    have hidx := idx_letter q hq64
    obtain ⟨d, hd⟩ : ∃ d, d = q % 32 := ⟨_, rfl⟩
    have ha1 : bits .and .i64 (q : Int) 31 = (d : Int) := by rw [show (31 : Int) = ((31 : Nat) : Int) from rfl, and_i64 q 31 (by omega) (by omega), nat_mask5, hd]
    have hdx : d ≤ x := by
      by_cases h : x < 32
      · rw [digs_last h] at hq; simp at hq; omega
      · rw [digs_more (by omega)] at hq; simp at hq; omega
    have hdp : d * p ≤ V := by have := HV.out; have := Nat.mul_le_mul_right p hdx; omega
    have hw1 : IntKind.i64.wrap ((d : Int) * 2 ^ min sh 64) = ((d * p : Nat) : Int) := shl_wrap d p sh HP.out (by omega) (by omega)
    obtain ⟨m, hm⟩ : ∃ m, m = d * p := ⟨_, rfl⟩
    have hor : bits .or .i64 (A : Int) (m : Int) = ((A + m : Nat) : Int) := by
      rw [or_i64 A m (by have := HV.out; omega) (by omega), hm, step_eq A q d p hd sh HP.out hA]
    rw [← hm] at hw1 hdp
    have hVV := HV.out
    have t0 : decide ((q : Int) < 0) = false := by simp
    by_cases hq32 : q < 32
    · have hx32 : x < 32 := by
        by_cases h : x < 32
        · exact h
        · rw [digs_more (by omega)] at hq; simp at hq; omega
      have hL1 : k + 1 = L := by rw [← HK.out, digs_last hx32]; rfl
      have hxq : x = q := by rw [digs_last hx32] at hq; simp at hq; omega
      have hAV : A + m = V := by rw [hm, ← hVV, hxq, hd, Nat.mod_eq_of_lt hq32]
      have ha2 : bits .and .i64 (q : Int) 32 = ((0 : Nat) : Int) := by rw [show (32 : Int) = ((32 : Nat) : Int) from rfl, and_i64 q 32 (by omega) (by omega), nat_bit5]; congr 1; omega
      rw [hAV] at hor
      have ha3 : bits .and .i64 (V : Int) 1 = ((V % 2 : Nat) : Int) := by rw [show (1 : Int) = ((1 : Nat) : Int) from rfl, and_i64 V 1 (by omega) (by omega), nat_mask1]
      obtain ⟨y, hy⟩ : ∃ y, y = V % 2 := ⟨_, rfl⟩
      rw [← hy] at ha3
      have HX : Hid (((st + k : Nat) : Int) + 1 = ((st + L : Nat) : Int)) := by unfold Hid; omega
      have HY := Lib.hid hy
      have hst : st + k < 1000 := by omega
      clear hL1 hxq hAV hm hd hVV hq hD hat hnx hy hdx hdp hsh hk
      rcases (show y = 0 ∨ y = 1 by have := HY.out; omega) with rfl | rfl
      · have HR : Hid (((V : Int) / 2) = numOf V) := by unfold Hid; rw [numOf, if_neg (by have := HY.out; omega)]; omega
        go_wp2_with (first | (go_at_call 13; refine (idx_any q hq64 _).mono ?_; rintro e w' ⟨rfl, rfl⟩) | fail)
        go_ret2
        exact ⟨ret_two HR.out HX.out, rfl⟩
      · have HR : Hid (-((V : Int) / 2) = numOf V) := by unfold Hid; rw [numOf, if_pos (by have := HY.out; omega)]; omega
        go_wp2_with (first | (go_at_call 13; refine (idx_any q hq64 _).mono ?_; rintro e w' ⟨rfl, rfl⟩) | fail)
        go_ret2
        exact ⟨ret_two HR.out HX.out, rfl⟩
    · have hx32 : 32 ≤ x := by
        rcases Nat.lt_or_ge x 32 with h | h
        · rw [digs_last h] at hq; simp at hq; omega
        · exact h
      have hqt := hq
      rw [digs_more hx32] at hqt
      simp at hqt
      obtain ⟨hq1, ht⟩ := hqt
      have hL1 : k + 1 + (digs (x / 32)).length = L := by rw [← HK.out, digs_more hx32]; simp; omega
      have hL2 : k + 1 + 1 ≤ L := by have := digs_pos (x / 32); omega
      have hdx2 : d = x % 32 := by omega
      have ha2 : bits .and .i64 (q : Int) 32 = ((32 : Nat) : Int) := by rw [show (32 : Int) = ((32 : Nat) : Int) from rfl, and_i64 q 32 (by omega) (by omega), nat_bit5]; congr 1; omega
      have t1 : (((32 : Nat) : Int) == 0) = false := rfl
      have HD2 : Hid (E.drop (st + (k + 1)) = letters (digs (x / 32)) ++ rest) := by unfold Hid; rw [ht, ← hnx]; rfl
      have HK2 := Lib.hid hL1
      have HP2 : Hid (p * 32 = 2 ^ (sh + 5)) := by unfold Hid; rw [Nat.pow_add, HP.out]
      have HA2 : A + m < p * 32 := by
        have h1 : m ≤ 31 * p := by rw [hm]; exact Nat.mul_le_mul_right p (by omega)
        omega
      have HV2 : Hid (A + m + x / 32 * (p * 32) = V) := by
        unfold Hid
        have h1 : x * p = m + x / 32 * (p * 32) := by
          rw [hm, hdx2, ← Nat.mul_assoc, Nat.mul_right_comm, ← Nat.add_mul]
          congr 1
          omega
        omega
      have hst : st + k < 1000 := by omega
      have hpk : k ≤ 6 := by omega
      have hsh2 : sh + 5 = 5 * (k + 1) := by omega
      have hw2 : wrap64 ((d : Int) * 2 ^ sh) = (m : Int) := by rw [Nat.min_eq_left (by omega), IntKind.wrap_i64] at hw1; unfold wrap64; omega
      have hshb : sh ≤ 30 := by omega
      clear hL1 hm hd hVV hq hD hat hnx hdx2 hdp hsh ht hq1 hdx HV HP HD HK
      have HS := Lib.hid hsh2
      clear hsh2
      go_wp2_with (first | (go_at_call 13; refine (idx_any q hq64 _).mono ?_; rintro e w' ⟨rfl, rfl⟩) | fail)
      go_round
      case rel => exact ⟨k + 1, x / 32, A + m, sh + 5, p * 32, by go_num, by go_num, rfl, hL2, HK2, HD2, HS.out, HP2, HA2, HV2⟩
      case measure => simp [intOf]; omega
end Go.Proofs.Ytglaomeebpidlaa
