/- Plain: what HashedBy's steps answer. -/
import Derived.Test.YtonndmljendcoaaDoorHashY
namespace Go.Proofs.YtonndmljendcoaaDoor
set_option linter.unusedVariables false
/-- The eight bytes of a hash, highest first. -/
def be8B (h : UInt64) : List UInt8 := [UInt8.ofNat (h.toNat / 72057594037927936), UInt8.ofNat (h.toNat / 281474976710656), UInt8.ofNat (h.toNat / 1099511627776), UInt8.ofNat (h.toNat / 4294967296), UInt8.ofNat (h.toNat / 16777216), UInt8.ofNat (h.toNat / 65536), UInt8.ofNat (h.toNat / 256), UInt8.ofNat h.toNat]
theorem be8_bytes (h : UInt64) : be8 h = byteCells (be8B h) := by
  simp only [be8, be8B, byteCells, List.map_cons, List.map_nil, UInt8.toNat_ofNat']
  simp
/-- What stands behind a step. -/
def stepS (S : List UInt8) (kd : Int) (l : List UInt8) : List UInt8 := if kd = 0 then S ++ l else if kd = 1 then S else []
/-- What a step answers. -/
def answer (S : List UInt8) (kd : Int) (l : List UInt8) : List UInt8 := if kd = 1 then l ++ be8B (hash S) else []
def after (S : List UInt8) : List (Int × List UInt8) → List UInt8
  | [] => S
  | x :: r => after (stepS S x.1 x.2) r
def answers (S : List UInt8) : List (Int × List UInt8) → List (List UInt8)
  | [] => []
  | x :: r => answer S x.1 x.2 :: answers (stepS S x.1 x.2) r
theorem after_snoc (S : List UInt8) (xs : List (Int × List UInt8)) (x : Int × List UInt8) : after S (xs ++ [x]) = stepS (after S xs) x.1 x.2 := by
  induction xs generalizing S with
  | nil => rfl
  | cons y r ih => exact ih _
theorem answers_snoc (S : List UInt8) (xs : List (Int × List UInt8)) (x : Int × List UInt8) : answers S (xs ++ [x]) = answers S xs ++ [answer (after S xs) x.1 x.2] := by
  induction xs generalizing S with
  | nil => rfl
  | cons y r ih => simp only [List.cons_append, answers, ih, after]
end Go.Proofs.YtonndmljendcoaaDoor
