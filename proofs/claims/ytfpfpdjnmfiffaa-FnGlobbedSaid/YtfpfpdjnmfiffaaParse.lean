/- What resolver.esmParsePackageName tells of a specifier, its callees taken by their contracts. -/
import Derived.Test.YtfpfpdjnmfiffaaNames
import Derived.Test.YtfpfpdjnmfiffaaShelf
import Derived.Deep.RegionWith
import Derived.Lib.IndexBytes
import Derived.Lib.SmallJoins
namespace Go.Proofs.Ytfpfpdjnmfiffaa
open Go.RowKit
set_option linter.unusedVariables false

set_option maxHeartbeats 400000 in
theorem containsAny_none (s : ByteArray) (w : World) (hs : s.size ≤ 9223372036854775807) (hok : ∀ i (hi : i < s.size), (s[i]'hi).toNat < 128 ∧ (s[i]'hi).toNat ≠ 92 ∧ (s[i]'hi).toNat ≠ 37) :
    Calls Try.prog 42 #[.string s, .string ⟨#[92, 37]⟩] w fun e w' => e = .returned (.bool false) ∧ Below w.heap.size w w' := by
  have C := Lib.hid (fun w : World => indexAny_none s w hs hok)
  clear hok
  go_enter Try.func42, Try.ntmps42
  go_wp2_with (go_at_call 46; refine (C.out _).mono ?_; rintro e w1 ⟨rfl, hb⟩)
  go_ret
  exact ⟨rfl, hb⟩

/-- What the two calls of IndexByte, those of HasPrefix and that of zzContainsAny tell. -/
def Idx (s : ByteArray) (i : Int) : Prop := ∀ w : World, Calls Try.prog 40 #[.string s, .int .u8 47] w fun e w' => e = .returned (.int .i64 i) ∧ w = w'
def Pre (s p : ByteArray) (b : Bool) : Prop := ∀ w : World, Calls Try.prog 41 #[.string s, .string p] w fun e w' => e = .returned (.bool b) ∧ w = w'
def NoAny (s : ByteArray) : Prop := ∀ w : World, Calls Try.prog 42 #[.string s, .string ⟨#[92, 37]⟩] w fun e w' => e = .returned (.bool false) ∧ Below w.heap.size w w'

theorem ne_empty {W : ByteArray} (h0 : 0 < W.size) : W.toList.isEmpty = false := by
  rw [Lib.toList_data]
  obtain ⟨⟨l⟩⟩ := W
  cases l with
  | nil => simp [ByteArray.size] at h0
  | cons x r => rfl

set_option maxHeartbeats 400000 in
theorem parse_a_end (S : ByteArray) (w : World) (h0 : 0 < S.size) (hs : S.size ≤ 1000) (hi : Idx S (-1)) (ha : Pre S ⟨#[64]⟩ false) (hd : Pre S ⟨#[46]⟩ false) (hn : NoAny S) :
    Calls Try.prog 34 #[.string S] w fun e w' => e = .returned (.tuple #[.string S, .string ⟨#[46]⟩, .bool true]) ∧ Below w.heap.size w w' := by
  have hne := ne_empty h0
  go_enter Try.func34, Try.ntmps34
  go_wp2_with (first | (go_at_call_of 40 (Value.string S); refine (hi _).mono ?_; rintro e w1 ⟨rfl, rfl⟩) | (go_at_call 42; refine (hn _).mono ?_; rintro e w1 ⟨rfl, hb⟩) | (go_at_call_of 41 (Value.string ⟨#[64]⟩); refine (ha _).mono ?_; rintro e w1 ⟨rfl, rfl⟩) | (go_at_call_of 41 (Value.string ⟨#[46]⟩); refine (hd _).mono ?_; rintro e w1 ⟨rfl, rfl⟩))
  go_ret3
  exact ⟨rfl, hb⟩

set_option maxHeartbeats 400000 in
theorem parse_a_more (S W R : ByteArray) (n : Nat) (w : World) (h0 : 0 < n) (hl : n < S.size) (hs : S.size ≤ 1000) (hW : S.extract 0 n = W) (hR : S.extract n S.size = R) (hz : W.size = n) (hi : Idx S n) (ha : Pre S ⟨#[64]⟩ false) (hd : Pre W ⟨#[46]⟩ false) (hn : NoAny W) :
    Calls Try.prog 34 #[.string S] w fun e w' => e = .returned (.tuple #[.string W, .string (⟨#[46]⟩ ++ R), .bool true]) ∧ Below w.heap.size w w' := by
  have hne := ne_empty (W := S) (by omega)
  have t1 : ((n : Int) == -1) = false := by first | (simp; done) | (simp; omega)
  have hRz : R.size ≤ 1000 := by rw [← hR, ByteArray.size_extract]; omega
  have hsum : ¬ 9223372036854775807 < 1 + R.size := by omega
  go_enter Try.func34, Try.ntmps34
  go_wp2_with (first | (go_at_call_of 40 (Value.string S); refine (hi _).mono ?_; rintro e w1 ⟨rfl, rfl⟩) | (go_at_call 42; refine (hn _).mono ?_; rintro e w1 ⟨rfl, hb⟩) | (go_at_call_of 41 (Value.string ⟨#[64]⟩); refine (ha _).mono ?_; rintro e w1 ⟨rfl, rfl⟩) | (go_at_call_of 41 (Value.string ⟨#[46]⟩); refine (hd _).mono ?_; rintro e w1 ⟨rfl, rfl⟩))
  go_ret3
  exact ⟨rfl, hb⟩

set_option maxHeartbeats 400000 in
theorem parse_b_end (S T : ByteArray) (k : Nat) (w : World) (hl : k + 1 < S.size) (hs : S.size ≤ 1000) (hT : S.extract (k + 1) S.size = T) (hz : k + 1 + T.size = S.size) (hE : S.extract 0 (k + 1 + T.size) = S) (hi : Idx S k) (hj : Idx T (-1)) (ha : Pre S ⟨#[64]⟩ true) (hd : Pre S ⟨#[46]⟩ false) (hn : NoAny S) :
    Calls Try.prog 34 #[.string S] w fun e w' => e = .returned (.tuple #[.string S, .string ⟨#[46]⟩, .bool true]) ∧ Below w.heap.size w w' := by
  have hne := ne_empty (W := S) (by omega)
  have t1 : ((k : Int) == -1) = false := by first | (simp; done) | (simp; omega)
  have hz1 : k + 1 + T.size ≤ S.size := by omega
  clear hz
  go_enter Try.func34, Try.ntmps34
  go_wp2_with (first | (go_at_call_of 40 (Value.string S); refine (hi _).mono ?_; rintro e w1 ⟨rfl, rfl⟩) | (go_at_call_of 40 (Value.string T); refine (hj _).mono ?_; rintro e w1 ⟨rfl, rfl⟩) | (go_at_call 42; refine (hn _).mono ?_; rintro e w1 ⟨rfl, hb⟩) | (go_at_call_of 41 (Value.string ⟨#[64]⟩); refine (ha _).mono ?_; rintro e w1 ⟨rfl, rfl⟩) | (go_at_call_of 41 (Value.string ⟨#[46]⟩); refine (hd _).mono ?_; rintro e w1 ⟨rfl, rfl⟩))
  go_ret3
  exact ⟨rfl, hb⟩

set_option maxHeartbeats 400000 in
theorem parse_b_more (S T W R : ByteArray) (k m : Nat) (w : World) (h0 : 0 < m) (hl : k + 1 + m < S.size) (hs : S.size ≤ 1000) (hT : S.extract (k + 1) S.size = T) (hW : S.extract 0 (k + 1 + m) = W) (hR : S.extract (k + 1 + m) S.size = R) (hz : W.size = k + 1 + m) (hi : Idx S k) (hj : Idx T m)
    (ha : Pre S ⟨#[64]⟩ true) (hd : Pre W ⟨#[46]⟩ false) (hn : NoAny W) :
    Calls Try.prog 34 #[.string S] w fun e w' => e = .returned (.tuple #[.string W, .string (⟨#[46]⟩ ++ R), .bool true]) ∧ Below w.heap.size w w' := by
  have hne := ne_empty (W := S) (by omega)
  have t1 : ((k : Int) == -1) = false := by first | (simp; done) | (simp; omega)
  have t2 : ((m : Int) == -1) = false := by first | (simp; done) | (simp; omega)
  have hRz : R.size ≤ 1000 := by rw [← hR, ByteArray.size_extract]; omega
  have hsum : ¬ 9223372036854775807 < 1 + R.size := by omega
  go_enter Try.func34, Try.ntmps34
  go_wp2_with (first | (go_at_call_of 40 (Value.string S); refine (hi _).mono ?_; rintro e w1 ⟨rfl, rfl⟩) | (go_at_call_of 40 (Value.string T); refine (hj _).mono ?_; rintro e w1 ⟨rfl, rfl⟩) | (go_at_call 42; refine (hn _).mono ?_; rintro e w1 ⟨rfl, hb⟩) | (go_at_call_of 41 (Value.string ⟨#[64]⟩); refine (ha _).mono ?_; rintro e w1 ⟨rfl, rfl⟩) | (go_at_call_of 41 (Value.string ⟨#[46]⟩); refine (hd _).mono ?_; rintro e w1 ⟨rfl, rfl⟩))
  go_ret3
  exact ⟨rfl, hb⟩
end Go.Proofs.Ytfpfpdjnmfiffaa
