/- The small functions that the quoting calls: DecodeWTF8Rune, canPrintWithoutEscape, RuneLen; and hexDigit. -/
import Derived.Test.YtmgjioffppphbaaQuoR
import Derived.Test.YtmgjioffppphbaaWtf
import Derived.Test.YtmgjioffppphbaaUnits
namespace Go.Proofs.Ytmgjioffppphbaa
open Go.RowKit
set_option linter.unusedVariables false
set_option linter.unusedSimpArgs false
theorem byte_of (s : ByteArray) (pos j : Nat) (h : j < (s.extract pos s.size).size) : ((s.extract pos s.size)[j]'h).toNat = (s.data.toList.getD (pos + j) 0).toNat := by
  have h1 := nums_at (s.extract pos s.size) j h
  rw [extract_nums, List.take_of_length_le (by rw [List.length_drop, nums_len]; exact Nat.le_refl _), List.getElem?_drop] at h1
  unfold nums at h1
  rw [List.getElem?_map] at h1
  rw [List.getD]
  cases hq : s.data.toList[pos + j]? with
  | none => rw [hq] at h1; simp at h1
  | some x => rw [hq] at h1; simp at h1; simp [h1]
theorem ext_size (s : ByteArray) (pos : Nat) : (s.extract pos s.size).size = s.size - pos := by simp
theorem ret_dec {a b : Int} {n m : Int} (h : a = b) (h2 : n = m) : Ending.returned (.tuple #[.int .i32 a, .int .i64 n]) = .returned (.tuple #[.int .i32 b, .int .i64 m]) := by rw [h, h2]
set_option maxRecDepth 100000 in
theorem wtf_at (s : ByteArray) (pos r n : Nat) (hs : Sign s pos r n) (w : World) : Calls Try.prog 13 #[.string (s.extract pos s.size)] w fun e w' => e = .returned (.tuple #[.int .i32 (r : Int), .int .i64 (n : Int)]) ∧ w = w' := by
  have hd := hs.dec
  have hk := hs.kind
  have hw := hs.wide
  have hi := hs.inn
  have hsz := ext_size s pos
  have hb := byte_of s pos
  rw [Lib.decode_N] at hd
  have k0 := (s.data.toList.getD pos 0).toNat_lt
  have k1 := (s.data.toList.getD (pos + 1) 0).toNat_lt
  have k2 := (s.data.toList.getD (pos + 2) 0).toNat_lt
  have k3 := (s.data.toList.getD (pos + 3) 0).toNat_lt
  generalize g0 : (s.data.toList.getD pos 0).toNat = b0 at *
  generalize g1 : (s.data.toList.getD (pos + 1) 0).toNat = b1 at *
  generalize g2 : (s.data.toList.getD (pos + 2) 0).toNat = b2 at *
  generalize g3 : (s.data.toList.getD (pos + 3) 0).toNat = b3 at *
  rcases Lib.decodeN_shape (s.data.toList.length - pos) b0 b1 b2 b3 with ⟨c, e⟩ | ⟨c1, c2, c3, cv, e⟩ | ⟨c1, c2, c3, c4, cv, cs, e⟩ | ⟨c1, c2, c3, c4, c5, cv, cw, e⟩ | e
  · rw [e] at hd
    cases hd
    exact wtf_one _ w (by omega) r ((hb 0 (by omega)).trans (by rw [Nat.add_zero]; exact g0)) c
  · rw [e] at hd
    cases hd
    refine (wtf_two _ w (by omega) b0 b1 ((hb 0 (by omega)).trans (by rw [Nat.add_zero]; exact g0)) ((hb 1 (by omega)).trans g1) (by omega) (by omega) (by omega) (by omega)).mono ?_
    rintro e w' ⟨rfl, rfl⟩
    exact ⟨ret_dec (by omega) rfl, rfl⟩
  · rw [e] at hd
    cases hd
    refine (wtf_three _ w (by omega) b0 b1 b2 ((hb 0 (by omega)).trans (by rw [Nat.add_zero]; exact g0)) ((hb 1 (by omega)).trans g1) ((hb 2 (by omega)).trans g2) (by omega) (by omega) (by omega) (by omega) (by omega) (by omega) (by omega)).mono ?_
    rintro e w' ⟨rfl, rfl⟩
    exact ⟨ret_dec (by omega) rfl, rfl⟩
  · rw [e] at hd
    cases hd
    have q0 : b0 - 240 = b0 % 8 := by clear cv cw hk hw hi; omega
    have q1 : b1 - 128 = b1 % 64 := by clear cv cw hk hw hi; omega
    have q2 : b2 - 128 = b2 % 64 := by clear cv cw hk hw hi; omega
    have q3 : b3 - 128 = b3 % 64 := by clear cv cw hk hw hi; omega
    refine (wtf_four _ w (by omega) b0 b1 b2 b3 ((hb 0 (by omega)).trans (by rw [Nat.add_zero]; exact g0)) ((hb 1 (by omega)).trans g1) ((hb 2 (by omega)).trans g2) ((hb 3 (by omega)).trans g3) (by omega) (by omega) (by omega) (by omega) (by omega) (by omega) (by omega) (by omega) (by rw [q0, q1, q2, q3]; exact cv) (by rw [q0, q1, q2, q3]; exact cw)).mono ?_
    rintro e w' ⟨rfl, rfl⟩
    exact ⟨ret_dec (by omega) rfl, rfl⟩
  · rw [e] at hd
    cases hd
    omega
set_option maxRecDepth 100000 in
set_option maxHeartbeats 1000000 in
theorem canP_any (r : Nat) (a : Bool) (w : World) (hr : r < 55296 ∨ (57343 < r ∧ r ≤ 1114111)) : Calls Try.prog 11 #[.int .i32 (r : Int), .bool a] w fun e w' => e = .returned (.bool (canP r a)) ∧ w = w' := by
  by_cases h1 : r ≤ 126
  · have t1 : decide ((r : Int) ≤ 126) = true := by simp; omega
    by_cases h2 : r < 32
    · have t2 : decide ((32 : Int) ≤ (r : Int)) = false := by simp; omega
      have e : canP r a = false := by unfold canP; rw [if_pos h1]; simp; omega
      rw [e]
      clear e h1 h2 hr
      go_enter Try.func11, Try.ntmps11
      go_wp2
      go_ret
      exact ⟨rfl, rfl⟩
    · have t2 : decide ((32 : Int) ≤ (r : Int)) = true := by simp; omega
      by_cases h3 : r = 92
      · subst h3
        go_enter Try.func11, Try.ntmps11
        go_wp2
        go_ret
        exact ⟨rfl, rfl⟩
      · by_cases h4 : r = 34
        · subst h4
          go_enter Try.func11, Try.ntmps11
          go_wp2
          go_ret
          exact ⟨rfl, rfl⟩
        · have t3 : ((r : Int) != 92) = true := by simp; omega
          have t4 : ((r : Int) != 34) = true := by simp; omega
          have e : canP r a = true := by unfold canP; rw [if_pos h1]; simp; omega
          rw [e]
          clear e h1 h2 hr h3 h4
          go_enter Try.func11, Try.ntmps11
          go_wp2
          go_ret
          exact ⟨rfl, rfl⟩
  · have t1 : decide ((r : Int) ≤ 126) = false := by simp; omega
    cases a with
    | true =>
      have e : canP r true = false := by unfold canP; rw [if_neg h1]; simp
      rw [e]
      clear e h1 hr
      go_enter Try.func11, Try.ntmps11
      go_wp2
      go_ret
      exact ⟨rfl, rfl⟩
    | false =>
      by_cases h3 : r = 65279
      · subst h3
        go_enter Try.func11, Try.ntmps11
        go_wp2
        go_ret
        exact ⟨rfl, rfl⟩
      · have t3 : ((r : Int) != 65279) = true := by simp; omega
        have e : canP r false = true := by unfold canP; rw [if_neg h1]; simp; omega
        rw [e]
        by_cases h4 : r < 55296
        · have t4 : decide ((r : Int) < 55296) = true := by simp; omega
          clear e h1 hr h3 h4
          go_enter Try.func11, Try.ntmps11
          go_wp2
          go_ret
          exact ⟨rfl, rfl⟩
        · have t4 : decide ((r : Int) < 55296) = false := by simp; omega
          have t5 : decide ((57343 : Int) < (r : Int)) = true := by simp; omega
          clear e h1 hr h3 h4
          go_enter Try.func11, Try.ntmps11
          go_wp2
          go_ret
          exact ⟨rfl, rfl⟩
/-- utf8.RuneLen of a sign: from one to four. -/
theorem runeLen_any (r : Nat) (w : World) (hr : r < 55296 ∨ (57343 < r ∧ r ≤ 1114111)) : Calls Try.prog 12 #[.int .i32 (r : Int)] w fun e w' => (∃ k : Nat, k ≤ 4 ∧ e = .returned (.int .i64 (k : Int))) ∧ w = w' := by
  have fin : ∀ k : Nat, k ≤ 4 → (∃ m : Nat, m ≤ 4 ∧ Ending.returned (.int .i64 (k : Int)) = .returned (.int .i64 (m : Int))) := fun k hk => ⟨k, hk, rfl⟩
  by_cases h1 : r ≤ 127
  · have t1 : decide ((r : Int) ≤ 127) = true := by simp; omega
    clear hr h1
    go_enter Try.func12, Try.ntmps12
    go_wp2
    go_ret
    exact ⟨fin 1 (by omega), rfl⟩
  · have t1 : decide ((r : Int) ≤ 127) = false := by simp; omega
    by_cases h2 : r ≤ 2047
    · have t2 : decide ((r : Int) ≤ 2047) = true := by simp; omega
      clear hr h1 h2
      go_enter Try.func12, Try.ntmps12
      go_wp2
      go_ret
      exact ⟨fin 2 (by omega), rfl⟩
    · have t2 : decide ((r : Int) ≤ 2047) = false := by simp; omega
      by_cases h3 : r < 55296
      · have t3 : decide ((55296 : Int) ≤ (r : Int)) = false := by simp; omega
        have t4 : decide ((r : Int) ≤ 65535) = true := by simp; omega
        clear hr h1 h2 h3
        go_enter Try.func12, Try.ntmps12
        go_wp2
        go_ret
        exact ⟨fin 3 (by omega), rfl⟩
      · have t3 : decide ((55296 : Int) ≤ (r : Int)) = true := by simp; omega
        have t4 : decide ((r : Int) ≤ 57343) = false := by simp; omega
        by_cases h5 : r ≤ 65535
        · have t5 : decide ((r : Int) ≤ 65535) = true := by simp; omega
          clear hr h1 h2 h3 h5
          go_enter Try.func12, Try.ntmps12
          go_wp2
          go_ret
          exact ⟨fin 3 (by omega), rfl⟩
        · have t5 : decide ((r : Int) ≤ 65535) = false := by simp; omega
          have t6 : decide ((r : Int) ≤ 1114111) = true := by simp; omega
          clear hr h1 h2 h3 h5
          go_enter Try.func12, Try.ntmps12
          go_wp2
          go_ret
          exact ⟨fin 4 (by omega), rfl⟩
theorem ret_i64 {a b : Int} (h : a = b) : Ending.returned (.int .i64 a) = .returned (.int .i64 b) := by rw [h]
/-- A digit of sixteen, written large, is read. -/
theorem hex_any (d : Nat) (hd : d < 16) (w : World) : Calls Try.prog 9 #[.int .u8 ((hx d : Nat) : Int)] w fun e w' => e = .returned (.int .i64 (d : Int)) ∧ w = w' := by
  unfold hx
  by_cases h : d < 10
  · rw [if_pos h]
    obtain ⟨c, hc⟩ : ∃ c, c = 48 + d := ⟨_, rfl⟩
    rw [← hc]
    have t1 : decide ((48 : Int) ≤ (c : Int)) = true := by simp; omega
    have t2 : decide ((c : Int) ≤ 57) = true := by simp; omega
    have h1 : 48 ≤ c := by omega
    have h2 : c ≤ 57 := by omega
    have HC := Lib.hid hc
    clear hc
    go_enter Try.func9, Try.ntmps9
    go_wp2
    go_ret
    exact ⟨ret_i64 (by have := HC.out; omega), rfl⟩
  · rw [if_neg h]
    obtain ⟨c, hc⟩ : ∃ c, c = 55 + d := ⟨_, rfl⟩
    rw [← hc]
    have t1 : decide ((48 : Int) ≤ (c : Int)) = true := by simp; omega
    have t2 : decide ((c : Int) ≤ 57) = false := by simp; omega
    have t3 : decide ((97 : Int) ≤ (c : Int)) = false := by simp; omega
    have t4 : decide ((65 : Int) ≤ (c : Int)) = true := by simp; omega
    have t5 : decide ((c : Int) ≤ 70) = true := by simp; omega
    have h1 : 65 ≤ c := by omega
    have h2 : c ≤ 70 := by omega
    have HC := Lib.hid hc
    clear hc
    go_enter Try.func9, Try.ntmps9
    go_wp2
    go_ret
    exact ⟨ret_i64 (by have := HC.out; omega), rfl⟩
end Go.Proofs.Ytmgjioffppphbaa
