/- What helpers.DecodeWTF8Rune tells of a text that begins with a well-formed sign of one to four bytes (its surrogates let in). -/
import Derived.Test.YtmgjioffppphbaaRows
import Derived.WalkKit
import Derived.WalkSpells
import Derived.WalkLawsBesides
namespace Go.Proofs.Ytmgjioffppphbaa
open Go.RowKit
set_option linter.unusedVariables false

theorem and224 (b : Nat) (h : b < 256) : bits .and .u8 (b : Int) 224 = ((b / 32 * 32 : Nat) : Int) := by
  rw [show (224 : Int) = ((224 : Nat) : Int) from rfl, u8_and_nat b 224 h (by decide)]
  have : ∀ b : Nat, b < 256 → b &&& 224 = b / 32 * 32 := by decide +kernel
  rw [this b h]
theorem and240 (b : Nat) (h : b < 256) : bits .and .u8 (b : Int) 240 = ((b / 16 * 16 : Nat) : Int) := by
  rw [show (240 : Int) = ((240 : Nat) : Int) from rfl, u8_and_nat b 240 h (by decide)]
  have : ∀ b : Nat, b < 256 → b &&& 240 = b / 16 * 16 := by decide +kernel
  rw [this b h]
theorem and248 (b : Nat) (h : b < 256) : bits .and .u8 (b : Int) 248 = ((b / 8 * 8 : Nat) : Int) := by
  rw [show (248 : Int) = ((248 : Nat) : Int) from rfl, u8_and_nat b 248 h (by decide)]
  have : ∀ b : Nat, b < 256 → b &&& 248 = b / 8 * 8 := by decide +kernel
  rw [this b h]
theorem and192 (b : Nat) (h : b < 256) : bits .and .u8 (b : Int) 192 = ((b / 64 * 64 : Nat) : Int) := by
  rw [show (192 : Int) = ((192 : Nat) : Int) from rfl, u8_and_nat b 192 h (by decide)]
  have : ∀ b : Nat, b < 256 → b &&& 192 = b / 64 * 64 := by decide +kernel
  rw [this b h]
theorem cont_no (b : Nat) (h : 128 ≤ b) (h' : b < 192) : (bits .and .u8 (b : Int) 192 != 128) = false := by
  rw [and192 b (by omega), show b / 64 * 64 = 128 by omega]; rfl
theorem is224 (b n : Nat) (h : b < 256) (hn : b / 32 * 32 = n) : (bits .and .u8 (b : Int) 224 == 192) = decide (n = 192) := by
  rw [and224 b h, hn]
  by_cases e : n = 192 <;> simp [e]
  omega
theorem is240 (b n : Nat) (h : b < 256) (hn : b / 16 * 16 = n) : (bits .and .u8 (b : Int) 240 == 224) = decide (n = 224) := by
  rw [and240 b h, hn]
  by_cases e : n = 224 <;> simp [e]
  omega
theorem is248 (b n : Nat) (h : b < 256) (hn : b / 8 * 8 = n) : (bits .and .u8 (b : Int) 248 == 240) = decide (n = 240) := by
  rw [and248 b h, hn]
  by_cases e : n = 240 <;> simp [e]
  omega
theorem ret_rune {a b : Int} {n : Int} (h : a = b) : Ending.returned (.tuple #[.int .i32 a, .int .i64 n]) = .returned (.tuple #[.int .i32 b, .int .i64 n]) := by rw [h]

set_option maxRecDepth 100000 in
set_option maxHeartbeats 1000000 in
theorem wtf_one (s : ByteArray) (w : World) (h : 0 < s.size) (b0 : Nat) (e0 : (s[0]'h).toNat = b0) (h0 : b0 < 128) :
    Calls Try.prog 13 #[.string s] w fun e w' => e = .returned (.tuple #[.int .i32 (b0 : Int), .int .i64 1]) ∧ w = w' := by
  have hs : ¬ (s.size : Int) < 1 := by omega
  go_enter Try.func13, Try.ntmps13
  go_wp2
  go_ret2
  exact ⟨rfl, rfl⟩

set_option maxRecDepth 100000 in
set_option maxHeartbeats 1000000 in
theorem wtf_two (s : ByteArray) (w : World) (h : 1 < s.size) (b0 b1 : Nat) (e0 : (s[0]'(by omega)).toNat = b0) (e1 : (s[1]'h).toNat = b1) (h0 : 194 ≤ b0) (h0' : b0 < 224) (h1 : 128 ≤ b1) (h1' : b1 < 192) :
    Calls Try.prog 13 #[.string s] w fun e w' => e = .returned (.tuple #[.int .i32 (((b0 : Int) - 192) * 64 + ((b1 : Int) - 128)), .int .i64 2]) ∧ w = w' := by
  have hs : ¬ (s.size : Int) < 1 := by omega
  have hs2 : ¬ (s.size : Int) < 2 := by omega
  have t1 := is224 b0 192 (by omega) (by omega)
  have c1 := cont_no b1 h1 h1'
  go_enter Try.func13, Try.ntmps13
  go_wp2
  go_ret2
  exact ⟨ret_rune (by omega), rfl⟩

set_option maxRecDepth 100000 in
set_option maxHeartbeats 1000000 in
theorem wtf_three (s : ByteArray) (w : World) (h : 2 < s.size) (b0 b1 b2 : Nat) (e0 : (s[0]'(by omega)).toNat = b0) (e1 : (s[1]'(by omega)).toNat = b1) (e2 : (s[2]'h).toNat = b2) (h0 : 224 ≤ b0) (h0' : b0 < 240) (h1 : 128 ≤ b1) (h1' : b1 < 192)
    (h2 : 128 ≤ b2) (h2' : b2 < 192) (hm : 2048 ≤ (b0 - 224) * 4096 + (b1 - 128) * 64 + (b2 - 128)) :
    Calls Try.prog 13 #[.string s] w fun e w' => e = .returned (.tuple #[.int .i32 (((b0 : Int) - 224) * 4096 + ((b1 : Int) - 128) * 64 + ((b2 : Int) - 128)), .int .i64 3]) ∧ w = w' := by
  have hs : ¬ (s.size : Int) < 1 := by omega
  have hs3 : ¬ (s.size : Int) < 3 := by omega
  have t1 := is224 b0 224 (by omega) (by omega)
  have t2 := is240 b0 224 (by omega) (by omega)
  have c1 := cont_no b1 h1 h1'
  have c2 := cont_no b2 h2 h2'
  go_enter Try.func13, Try.ntmps13
  go_wp2
  go_ret2
  exact ⟨ret_rune (by omega), rfl⟩

set_option maxRecDepth 100000 in
set_option maxHeartbeats 1000000 in
theorem wtf_four (s : ByteArray) (w : World) (h : 3 < s.size) (b0 b1 b2 b3 : Nat) (e0 : (s[0]'(by omega)).toNat = b0) (e1 : (s[1]'(by omega)).toNat = b1) (e2 : (s[2]'(by omega)).toNat = b2) (e3 : (s[3]'h).toNat = b3)
    (h0 : 240 ≤ b0) (h0' : b0 < 248) (h1 : 128 ≤ b1) (h1' : b1 < 192) (h2 : 128 ≤ b2) (h2' : b2 < 192) (h3 : 128 ≤ b3) (h3' : b3 < 192)
    (hm : 65536 ≤ (b0 - 240) * 262144 + (b1 - 128) * 4096 + (b2 - 128) * 64 + (b3 - 128)) (hM : (b0 - 240) * 262144 + (b1 - 128) * 4096 + (b2 - 128) * 64 + (b3 - 128) ≤ 1114111) :
    Calls Try.prog 13 #[.string s] w fun e w' => e = .returned (.tuple #[.int .i32 (((b0 : Int) - 240) * 262144 + ((b1 : Int) - 128) * 4096 + ((b2 : Int) - 128) * 64 + ((b3 : Int) - 128)), .int .i64 4]) ∧ w = w' := by
  have hs : ¬ (s.size : Int) < 1 := by omega
  have hs4 : ¬ (s.size : Int) < 4 := by omega
  have t1 := is224 b0 (b0 / 32 * 32) (by omega) (by omega)
  have t2 := is240 b0 240 (by omega) (by omega)
  have t3 := is248 b0 240 (by omega) (by omega)
  have t1' : (bits .and .u8 (b0 : Int) 224 == 192) = false := by rw [t1]; simp; omega
  clear t1
  have c1 := cont_no b1 h1 h1'
  have c2 := cont_no b2 h2 h2'
  have c3 := cont_no b3 h3 h3'
  go_enter Try.func13, Try.ntmps13
  go_wp2
  go_ret2
  exact ⟨ret_rune (by omega), rfl⟩
end Go.Proofs.Ytmgjioffppphbaa
