/- Plain: XXH64 over a list of bytes. -/
import Derived.Laws.BitsAllLaws
import Derived.Lib.Endian
namespace Go.Proofs.YtonndmljendcoaaDoor
set_option linter.unusedVariables false

def P1 : UInt64 := 11400714785074694791
def P2 : UInt64 := 14029467366897019727
def P3 : UInt64 := 1609587929392839161
def P4 : UInt64 := 9650029242287828579
def P5 : UInt64 := 2870177450012600261
def rotl (x : UInt64) (n : Nat) : UInt64 := UInt64.ofNat (x.toNat * 2 ^ n % 2 ^ 64 ||| x.toNat / 2 ^ (64 - n))
/-- Words' sum, product and difference, under names of their own: Lean's own simp lays '+' and '*' of words open. -/
def aW (a b : UInt64) : UInt64 := a + b
def mW (a b : UInt64) : UInt64 := a * b
def xW (a b : UInt64) : UInt64 := a ^^^ b
def nW (a : UInt64) : UInt64 := 0 - a
def zW : UInt64 := 0
def shW (a : UInt64) (n : Nat) : UInt64 := UInt64.ofNat (a.toNat / 2 ^ n)
def bW (b : UInt8) : UInt64 := UInt64.ofNat b.toNat
def lW (n : Nat) : UInt64 := UInt64.ofNat n
def rnd (a l : UInt64) : UInt64 := mW (rotl (aW a (mW l P2)) 31) P1
def mrg (a v : UInt64) : UInt64 := aW (mW (xW a (rnd zW v)) P1) P4
def le8 (l : List UInt8) : UInt64 := UInt64.ofNat (Lib.leNat (l.take 8))
def le4 (l : List UInt8) : UInt64 := UInt64.ofNat (Lib.leNat (l.take 4))
structure V4 where
  a : UInt64
  b : UInt64
  c : UInt64
  d : UInt64
def stepV (v : V4) (l : List UInt8) : V4 := ⟨rnd v.a (le8 l), rnd v.b (le8 (l.drop 8)), rnd v.c (le8 (l.drop 16)), rnd v.d (le8 (l.drop 24))⟩
def runV (v : V4) (l : List UInt8) : V4 := if h : 32 ≤ l.length then runV (stepV v l) (l.drop 32) else v
termination_by l.length
decreasing_by simp; omega
def restV (l : List UInt8) : List UInt8 := if h : 32 ≤ l.length then restV (l.drop 32) else l
termination_by l.length
decreasing_by simp; omega
def v0 : V4 := ⟨aW P1 P2, P2, zW, nW P1⟩
def joinV (v : V4) : UInt64 := mrg (mrg (mrg (mrg (aW (aW (aW (rotl v.a 1) (rotl v.b 7)) (rotl v.c 12)) (rotl v.d 18)) v.a) v.b) v.c) v.d
def fin (h : UInt64) : UInt64 :=
  let h1 := mW (xW h (shW h 33)) P2
  let h2 := mW (xW h1 (shW h1 29)) P3
  xW h2 (shW h2 32)
def mix1 (h : UInt64) (b : UInt8) : UInt64 := mW (rotl (xW h (mW (bW b) P5)) 11) P1
def mix4 (h : UInt64) (l : List UInt8) : UInt64 := aW (mW (rotl (xW h (mW (le4 l) P1)) 23) P2) P3
def mix8 (h : UInt64) (l : List UInt8) : UInt64 := aW (mW (rotl (xW h (rnd zW (le8 l))) 27) P1) P4
def ones (h : UInt64) : List UInt8 → UInt64
  | [] => fin h
  | b :: l => ones (mix1 h b) l
def fours (h : UInt64) (l : List UInt8) : UInt64 := if 4 ≤ l.length then ones (mix4 h l) (l.drop 4) else ones h l
def eights (h : UInt64) (l : List UInt8) : UInt64 := if 8 ≤ l.length then eights (mix8 h l) (l.drop 8) else fours h l
termination_by l.length
decreasing_by simp; omega
def startV (n : Nat) (v : V4) : UInt64 := if 32 ≤ n then joinV v else P5
/-- The hash of a list: what its whole blocks have made of the four words, its length, and what is left. -/
def hash (l : List UInt8) : UInt64 := eights (aW (startV l.length (runV v0 l)) (lW l.length)) (restV l)
theorem runV_more {v : V4} {l : List UInt8} (h : 32 ≤ l.length) : runV v l = runV (stepV v l) (l.drop 32) := by rw [runV, dif_pos h]
theorem runV_end {v : V4} {l : List UInt8} (h : ¬ 32 ≤ l.length) : runV v l = v := by rw [runV, dif_neg h]
theorem restV_more {l : List UInt8} (h : 32 ≤ l.length) : restV l = restV (l.drop 32) := by rw [restV, dif_pos h]
theorem restV_end {l : List UInt8} (h : ¬ 32 ≤ l.length) : restV l = l := by rw [restV, dif_neg h]
theorem eights_more {h : UInt64} {l : List UInt8} (hl : 8 ≤ l.length) : eights h l = eights (mix8 h l) (l.drop 8) := by rw [eights, if_pos hl]
theorem eights_end {h : UInt64} {l : List UInt8} (hl : ¬ 8 ≤ l.length) : eights h l = fours h l := by rw [eights, if_neg hl]

/-! ### What a machine word computes -/
theorem w_add (a b : UInt64) : IntKind.u64.wrap ((a.toNat : Int) + (b.toNat : Int)) = ((aW a b).toNat : Int) := by
  rw [IntKind.wrap_u64, aW, UInt64.toNat_add]; omega
theorem w_mul (a b : UInt64) : IntKind.u64.wrap ((a.toNat : Int) * (b.toNat : Int)) = ((mW a b).toNat : Int) := by
  rw [IntKind.wrap_u64, mW, UInt64.toNat_mul, ← Int.natCast_mul]; omega
theorem w_neg (a : UInt64) : IntKind.u64.wrap (-(a.toNat : Int)) = ((nW a).toNat : Int) := by
  rw [IntKind.wrap_u64, nW, UInt64.toNat_sub]
  have := a.toNat_lt
  simp
  omega
theorem w_xor (a b : UInt64) : bits .xor .u64 (a.toNat : Int) (b.toNat : Int) = ((xW a b).toNat : Int) := by
  rw [u64_xor_nat _ _ (by have := a.toNat_lt; simpa using this) (by have := b.toNat_lt; simpa using this), xW, UInt64.toNat_xor]
theorem ofNat_small {n : Nat} (h : n < 2 ^ 64) : (UInt64.ofNat n).toNat = n := by
  rw [UInt64.toNat_ofNat']; omega
theorem rotl_nat (x : UInt64) (n : Nat) (hn : n ≤ 64) : (rotl x n).toNat = (x.toNat * 2 ^ n % 2 ^ 64 ||| x.toNat / 2 ^ (64 - n)) := by
  have h1 : x.toNat * 2 ^ n % 2 ^ 64 < 2 ^ 64 := Nat.mod_lt _ (by decide)
  have h2 : x.toNat / 2 ^ (64 - n) < 2 ^ 64 := Nat.lt_of_le_of_lt (Nat.div_le_self _ _) x.toNat_lt
  exact ofNat_small (Nat.or_lt_two_pow h1 h2)
theorem w_or (a b : Nat) (ha : a < 2 ^ 64) (hb : b < 2 ^ 64) : bits .or .u64 (a : Int) (b : Int) = ((a ||| b : Nat) : Int) := u64_or_nat a b (by omega) (by omega)
theorem w_shl (a n : Nat) (hn : n < 64) : IntKind.u64.wrap ((a : Int) * 2 ^ min n 64) = ((a * 2 ^ n % 2 ^ 64 : Nat) : Int) := by
  rw [Nat.min_eq_left (by omega), IntKind.wrap_u64]
  have : ((a : Int) * 2 ^ n) = ((a * 2 ^ n : Nat) : Int) := by simp
  rw [this]
  omega
theorem w_shl' (a n : Nat) : IntKind.u64.wrap ((a : Int) * 2 ^ n) = ((a * 2 ^ n % 2 ^ 64 : Nat) : Int) := by
  rw [IntKind.wrap_u64]
  have : ((a : Int) * 2 ^ n) = ((a * 2 ^ n : Nat) : Int) := by simp
  rw [this]
  omega
theorem w_shr (a n : Nat) : ((a : Int) / 2 ^ n) = ((a / 2 ^ n : Nat) : Int) := by simp
theorem w_sh (a : UInt64) (n : Nat) : (a.toNat : Int) / 2 ^ n = ((shW a n).toNat : Int) := by
  rw [w_shr, shW, ofNat_small (Nat.lt_of_le_of_lt (Nat.div_le_self _ _) a.toNat_lt)]
theorem w_byte (b : UInt8) : (b.toNat : Int) = ((bW b).toNat : Int) := by
  rw [bW, ofNat_small (by have := b.toNat_lt; omega)]
theorem w_len (n : Nat) (h : n < 2 ^ 64) : (n : Int) = ((lW n).toNat : Int) := by rw [lW, ofNat_small h]
theorem leNat_lt (l : List UInt8) : Lib.leNat l < 256 ^ l.length := by
  induction l with
  | nil => simp [Lib.leNat]
  | cons b l ih =>
    have := b.toNat_lt
    simp only [Lib.leNat, List.length_cons, Nat.pow_succ]
    omega
theorem leNat_lt8 (l : List UInt8) : Lib.leNat (l.take 8) < 2 ^ 64 := by
  have h1 := leNat_lt (l.take 8)
  have h2 : (l.take 8).length ≤ 8 := List.length_take_le _ _
  have h3 : 256 ^ (l.take 8).length ≤ 256 ^ 8 := Nat.pow_le_pow_right (by decide) h2
  have : 256 ^ 8 = 2 ^ 64 := by decide
  omega
theorem leNat_lt4 (l : List UInt8) : Lib.leNat (l.take 4) < 2 ^ 32 := by
  have h1 := leNat_lt (l.take 4)
  have h2 : (l.take 4).length ≤ 4 := List.length_take_le _ _
  have h3 : 256 ^ (l.take 4).length ≤ 256 ^ 4 := Nat.pow_le_pow_right (by decide) h2
  have : 256 ^ 4 = 2 ^ 32 := by decide
  omega
theorem le8_nat (l : List UInt8) : (le8 l).toNat = Lib.leNat (l.take 8) := ofNat_small (leNat_lt8 l)
theorem le4_nat (l : List UInt8) : (le4 l).toNat = Lib.leNat (l.take 4) := ofNat_small (Nat.lt_trans (leNat_lt4 l) (by decide))
end Go.Proofs.YtonndmljendcoaaDoor
