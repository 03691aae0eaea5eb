/- What spec.VLQ tells: the letters of the digits. -/
import Derived.Test.YtglaomeebpidlaaRows
import Derived.Test.YtglaomeebpidlaaDigs
import Derived.WalkKit
import Derived.WalkSpells
import Derived.WalkLawsBesides
import Derived.LoopTactic
import Derived.Lib.Hide
import Derived.Lib.Strings
import Derived.Laws.Bits64b
namespace Go.Proofs.Ytglaomeebpidlaa
open Go.RowKit
set_option linter.unusedVariables false
set_option linter.unusedSimpArgs false

def alpha : ByteArray := ⟨#[65, 66, 67, 68, 69, 70, 71, 72, 73, 74, 75, 76, 77, 78, 79, 80, 81, 82, 83, 84, 85, 86, 87, 88, 89, 90, 97, 98, 99, 100, 101, 102, 103, 104, 105, 106, 107, 108, 109, 110, 111, 112, 113, 114, 115, 116, 117, 118, 119, 120, 121, 122, 48, 49, 50, 51, 52, 53, 54, 55, 56, 57, 43, 47]⟩
def letter (d : Nat) : UInt8 := alpha.data.toList.getD d 0
def letters (l : List Nat) : List UInt8 := l.map letter
theorem ret_text {O : ByteArray} {l : List UInt8} (h : O.data.toList = l) : Ending.returned (.string O) = .returned (.string ⟨l.toArray⟩) := by
  subst h; congr 2
theorem one_at (l : List UInt8) (q : Nat) (h : q < l.length) : (l.drop q).take 1 = [l.getD q 0] := by
  have e : l.getD q 0 = l[q] := by simp [List.getD, List.getElem?_eq_getElem h]
  rw [e, List.drop_eq_getElem_cons h]
  rfl
theorem alpha_at (q : Nat) (h : q < 64) : (alpha.extract q (q + 1)).data.toList = [letter q] := by
  rw [Lib.extract_data, show q + 1 - q = 1 by omega]
  exact one_at _ q h
theorem or_one (m : Nat) (h : m < 2147483648) : bits .or .u64 ((m : Int) * 2) 1 = ((2 * m + 1 : Nat) : Int) := by
  have h1 := bits_or_u64_nat (m * 2) 1 (by omega) (by omega)
  have h2 := or_free 1 m 1 (by decide)
  rw [show ((m : Int) * 2) = ((m * 2 : Nat) : Int) by omega]
  refine h1.trans ?_
  rw [Nat.or_comm, show m * 2 = m * 2 ^ 1 by omega, h2]
  omega
theorem and_31 (v : Nat) (h : v < 4294967296) : bits .and .u64 (v : Int) 31 = ((v % 32 : Nat) : Int) := by
  have h1 := bits_and_u64_nat v 31 (by omega) (by omega)
  refine h1.trans ?_
  have : v &&& 31 = v % 32 := Nat.and_two_pow_sub_one_eq_mod v 5
  rw [this]
theorem or_32 (d : Nat) (h : d < 32) : bits .or .u64 (d : Int) 32 = ((d + 32 : Nat) : Int) := by
  have h1 := bits_or_u64_nat d 32 (by omega) (by omega)
  refine h1.trans ?_
  have h2 := or_free d 1 5 (by omega)
  rw [show (32 : Nat) = 1 * 2 ^ 5 by decide, h2]
set_option maxRecDepth 100000 in
set_option maxHeartbeats 2000000 in
theorem enc_any (n : Int) (V : Nat) (hV : (if n < 0 then 2 * (-n) + 1 else 2 * n) = (V : Int)) (h31 : V < 2147483648) (w : World) :
    Calls Try.prog 4 #[.int .i64 n] w fun e w' => e = .returned (.string ⟨(letters (digs V)).toArray⟩) ∧ w = w' := by
  have hf : ¬ (IntKind.u64.signed = false) ∨ True := .inr trivial
  by_cases h0 : n < 0
  · have t1 : decide (n < 0) = true := by simpa using h0
    rw [if_pos h0] at hV
    obtain ⟨m, rfl⟩ : ∃ m : Nat, n = -(m : Int) := ⟨(-n).toNat, by omega⟩
    have hor := or_one m (by omega)
    rw [show ((2 * m + 1 : Nat) : Int) = (V : Int) by omega] at hor
    go_enter Try.func4, Try.ntmps4
    go_wp2
    have hS : Hid ((⟨#[]⟩ : ByteArray).data.toList ++ letters (digs V) = letters (digs V)) := rfl
    have hdl := digs_len V 6 (by omega)
    go_loop [3, 4] (fun v o => ∃ (x : Nat) (O : ByteArray), v = .int .u64 x ∧ o = .string O ∧ x < 2147483648 ∧ Hid (O.data.toList ++ letters (digs x) = letters (digs V))) (fun v _ => (intOf v).toNat)
    case atStart => exact ⟨V, _, rfl, rfl, h31, hS⟩
    case round =>
      obtain ⟨x, O, rfl, rfl, hx, HO⟩ := hrel
      have hOz : O.size ≤ 7 := by
        have h1 := congrArg List.length HO.out
        rw [List.length_append] at h1
        simp [letters] at h1
        omega
      have ha := and_31 x (by omega)
      by_cases hlt : x < 32
      · rw [Nat.mod_eq_of_lt hlt] at ha
        have hq : (x : Int) / 32 = 0 := by omega
        have hfin : (O ++ alpha.extract x (x + 1)).data.toList = letters (digs V) := by
          rw [← HO.out, digs_last hlt, show (O ++ alpha.extract x (x + 1)).data.toList = O.data.toList ++ (alpha.extract x (x + 1)).data.toList by simp, alpha_at x (by omega)]
          rfl
        have HFIN := Lib.hid hfin
        clear hfin
        go_wp2_with fail
        go_ret
        exact ⟨ret_text HFIN.out, rfl⟩
      · obtain ⟨d, hd⟩ : ∃ d, d = x % 32 := ⟨_, rfl⟩
        obtain ⟨q, hq⟩ : ∃ q, q = d + 32 := ⟨_, rfl⟩
        have ho := or_32 d (by omega)
        rw [← hd] at ha
        rw [← hq] at ho
        have hq2 : q < 64 ∧ 32 ≤ q := by omega
        have HD := Lib.hid hd
        have HQ := Lib.hid hq
        clear hd hq
        have t2 : decide ((0 : Int) < (x : Int) / 32) = true := by simp; omega
        have t3 : (((x : Int) / 32) == 0) = false := by simp; omega
        go_wp2_with fail
        go_round
        case rel =>
          refine ⟨x / 32, _, by simp, rfl, by omega, ?_⟩
          show (O ++ alpha.extract q (q + 1)).data.toList ++ letters (digs (x / 32)) = letters (digs V)
          rw [← HO.out, digs_more (V := x) (by omega), ← HD.out, ← HQ.out]
          show _ = O.data.toList ++ (letter q :: letters (digs (x / 32)))
          rw [show (O ++ alpha.extract q (q + 1)).data.toList = O.data.toList ++ (alpha.extract q (q + 1)).data.toList by simp, alpha_at q hq2.1]
          simp
        case measure => simp [intOf]; omega
  · have t1 : decide (n < 0) = false := by simpa using h0
    rw [if_neg h0] at hV
    obtain ⟨m, rfl⟩ : ∃ m : Nat, n = (m : Int) := ⟨n.toNat, by omega⟩
    obtain rfl : V = 2 * m := by omega
    have hm2 : ((2 * m : Nat) : Int) = (m : Int) * 2 := by omega
    go_enter Try.func4, Try.ntmps4
    go_wp2
    rw [← hm2]
    have hS : Hid ((⟨#[]⟩ : ByteArray).data.toList ++ letters (digs (2 * m)) = letters (digs (2 * m))) := rfl
    have hdl := digs_len (2 * m) 6 (by omega)
    go_loop [3, 4] (fun v o => ∃ (x : Nat) (O : ByteArray), v = .int .u64 x ∧ o = .string O ∧ x < 2147483648 ∧ Hid (O.data.toList ++ letters (digs x) = letters (digs (2 * m)))) (fun v _ => (intOf v).toNat)
    case atStart => exact ⟨2 * m, _, rfl, rfl, h31, hS⟩
    case round =>
      obtain ⟨x, O, rfl, rfl, hx, HO⟩ := hrel
      have hOz : O.size ≤ 7 := by
        have h1 := congrArg List.length HO.out
        rw [List.length_append] at h1
        simp [letters] at h1
        omega
      have ha := and_31 x (by omega)
      by_cases hlt : x < 32
      · rw [Nat.mod_eq_of_lt hlt] at ha
        have hq : (x : Int) / 32 = 0 := by omega
        have hfin : (O ++ alpha.extract x (x + 1)).data.toList = letters (digs (2 * m)) := by
          rw [← HO.out, digs_last hlt, show (O ++ alpha.extract x (x + 1)).data.toList = O.data.toList ++ (alpha.extract x (x + 1)).data.toList by simp, alpha_at x (by omega)]
          rfl
        have HFIN := Lib.hid hfin
        clear hfin
        go_wp2_with fail
        go_ret
        exact ⟨ret_text HFIN.out, rfl⟩
      · obtain ⟨d, hd⟩ : ∃ d, d = x % 32 := ⟨_, rfl⟩
        obtain ⟨q, hq⟩ : ∃ q, q = d + 32 := ⟨_, rfl⟩
        have ho := or_32 d (by omega)
        rw [← hd] at ha
        rw [← hq] at ho
        have hq2 : q < 64 ∧ 32 ≤ q := by omega
        have HD := Lib.hid hd
        have HQ := Lib.hid hq
        clear hd hq
        have t2 : decide ((0 : Int) < (x : Int) / 32) = true := by simp; omega
        have t3 : (((x : Int) / 32) == 0) = false := by simp; omega
        go_wp2_with fail
        go_round
        case rel =>
          refine ⟨x / 32, _, by simp, rfl, by omega, ?_⟩
          show (O ++ alpha.extract q (q + 1)).data.toList ++ letters (digs (x / 32)) = letters (digs (2 * m))
          rw [← HO.out, digs_more (V := x) (by omega), ← HD.out, ← HQ.out]
          show _ = O.data.toList ++ (letter q :: letters (digs (x / 32)))
          rw [show (O ++ alpha.extract q (q + 1)).data.toList = O.data.toList ++ (alpha.extract q (q + 1)).data.toList by simp, alpha_at q hq2.1]
          simp
        case measure => simp [intOf]; omega
end Go.Proofs.Ytglaomeebpidlaa
