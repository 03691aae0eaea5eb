/- Plain: what a digest holds of the bytes that were written. -/
import Derived.Test.YtonndmljendcoaaDoorHashN
namespace Go.Proofs.YtonndmljendcoaaDoor
open Go.RowKit
set_option linter.unusedVariables false
theorem run_rest (v : V4) (S l : List UInt8) : runV v (S ++ l) = runV (runV v S) (restV S ++ l) ∧ restV (S ++ l) = restV (restV S ++ l) := by
  generalize hn : S.length = n
  induction n using Nat.strongRecOn generalizing v S with
  | ind n ih =>
    by_cases h : 32 ≤ S.length
    · have h2 : 32 ≤ (S ++ l).length := by simp; omega
      have e1 : (S ++ l).drop 32 = S.drop 32 ++ l := List.drop_append_of_le_length h
      have tk : ∀ k, k + 8 ≤ 32 → le8 ((S ++ l).drop k) = le8 (S.drop k) := fun k hk => by
        unfold le8
        rw [List.drop_append_of_le_length (by omega), List.take_append_of_le_length (by simp; omega)]
      have es : stepV v (S ++ l) = stepV v S := by
        have t0 := tk 0 (by omega)
        simp only [List.drop_zero] at t0
        simp only [stepV, t0, tk 8 (by omega), tk 16 (by omega), tk 24 (by omega)]
      have := ih (S.drop 32).length (by simp; omega) (stepV v S) (S.drop 32) rfl
      rw [runV_more h2, restV_more h2, runV_more h, restV_more h, e1, es]
      exact this
    · rw [runV_end h, restV_end h]; exact ⟨rfl, rfl⟩
theorem rest_lt (S : List UInt8) : (restV S).length < 32 := by
  generalize hn : S.length = n
  induction n using Nat.strongRecOn generalizing S with
  | ind n ih =>
    by_cases h : 32 ≤ S.length
    · rw [restV_more h]; exact ih _ (by simp; omega) _ rfl
    · rw [restV_end h]; omega
theorem rest_le (S : List UInt8) : (restV S).length ≤ S.length := by
  generalize hn : S.length = n
  induction n using Nat.strongRecOn generalizing S with
  | ind n ih =>
    by_cases h : 32 ≤ S.length
    · rw [restV_more h]; exact Nat.le_trans (ih _ (by simp; omega) _ rfl) (by simp; omega)
    · rw [restV_end h]; omega
def byteCells (l : List UInt8) : List Value := l.map fun b => .int .u8 (b.toNat : Int)
/-- The digest's cells: the four words, how many bytes were written, the 32 places, how many of them are taken. -/
def digCells (v : V4) (t : Nat) (mem : List UInt8) (n : Nat) : List Value :=
  .int .u64 (v.a.toNat : Int) :: .int .u64 (v.b.toNat : Int) :: .int .u64 (v.c.toNat : Int) :: .int .u64 (v.d.toNat : Int) :: .int .u64 (t : Int) :: (byteCells mem ++ [.int .i64 (n : Int)])
theorem dig0 (v : V4) (t : Nat) (mem : List UInt8) (n : Nat) : (digCells v t mem n)[0]? = some (.int .u64 (v.a.toNat : Int)) := rfl
theorem dig1 (v : V4) (t : Nat) (mem : List UInt8) (n : Nat) : (digCells v t mem n)[1]? = some (.int .u64 (v.b.toNat : Int)) := rfl
theorem dig2 (v : V4) (t : Nat) (mem : List UInt8) (n : Nat) : (digCells v t mem n)[2]? = some (.int .u64 (v.c.toNat : Int)) := rfl
theorem dig3 (v : V4) (t : Nat) (mem : List UInt8) (n : Nat) : (digCells v t mem n)[3]? = some (.int .u64 (v.d.toNat : Int)) := rfl
theorem dig4 (v : V4) (t : Nat) (mem : List UInt8) (n : Nat) : (digCells v t mem n)[4]? = some (.int .u64 (t : Int)) := rfl
theorem digM (v : V4) (t : Nat) (mem : List UInt8) (n : Nat) (j : Nat) (h : j < mem.length) : (digCells v t mem n)[5 + j]? = some (.int .u8 ((mem[j]'h).toNat : Int)) := by
  rw [Nat.add_comm]
  show (byteCells mem ++ [Value.int .i64 (n : Int)])[j]? = _
  rw [List.getElem?_append_left (by simpa [byteCells] using h)]
  simp [byteCells, List.getElem?_eq_getElem h]
theorem dig37 (v : V4) (t : Nat) (mem : List UInt8) (n : Nat) (h : mem.length = 32) : (digCells v t mem n)[37]? = some (.int .i64 (n : Int)) := by
  show (byteCells mem ++ [Value.int .i64 (n : Int)])[32]? = _
  rw [List.getElem?_append_right (by simp [byteCells, h])]
  simp [byteCells, h]
theorem set0 (v : V4) (t : Nat) (mem : List UInt8) (n : Nat) (x : UInt64) : (digCells v t mem n).set 0 (.int .u64 (x.toNat : Int)) = digCells ⟨x, v.b, v.c, v.d⟩ t mem n := rfl
theorem set1 (v : V4) (t : Nat) (mem : List UInt8) (n : Nat) (x : UInt64) : (digCells v t mem n).set 1 (.int .u64 (x.toNat : Int)) = digCells ⟨v.a, x, v.c, v.d⟩ t mem n := rfl
theorem set2 (v : V4) (t : Nat) (mem : List UInt8) (n : Nat) (x : UInt64) : (digCells v t mem n).set 2 (.int .u64 (x.toNat : Int)) = digCells ⟨v.a, v.b, x, v.d⟩ t mem n := rfl
theorem set3 (v : V4) (t : Nat) (mem : List UInt8) (n : Nat) (x : UInt64) : (digCells v t mem n).set 3 (.int .u64 (x.toNat : Int)) = digCells ⟨v.a, v.b, v.c, x⟩ t mem n := rfl
theorem set4 (v : V4) (t : Nat) (mem : List UInt8) (n t' : Nat) : (digCells v t mem n).set 4 (.int .u64 (t' : Int)) = digCells v t' mem n := rfl
theorem set37 (v : V4) (t : Nat) (mem : List UInt8) (n n' : Nat) (h : mem.length = 32) : (digCells v t mem n).set 37 (.int .i64 (n' : Int)) = digCells v t mem n' := by
  show _ :: _ :: _ :: _ :: _ :: (byteCells mem ++ [Value.int .i64 (n : Int)]).set 32 _ = _
  rw [List.set_append_right _ _ (by simp [byteCells, h])]
  simp [byteCells, h]
  rfl
/-- A digest whose raw state is this. -/
def Raw (w : World) (B : Nat) (v : V4) (t : Nat) (mem : List UInt8) (n : Nat) : Prop := mem.length = 32 ∧ Vec w B 52 (digCells v t mem n)
/-- A digest that was given the bytes S since it was set back. -/
def Dig (w : World) (B : Nat) (S : List UInt8) : Prop := ∃ mem, mem.take (restV S).length = restV S ∧ Raw w B (runV v0 S) S.length mem (restV S).length
end Go.Proofs.YtonndmljendcoaaDoor
