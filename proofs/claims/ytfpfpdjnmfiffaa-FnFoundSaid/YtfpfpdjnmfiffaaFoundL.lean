/- Plain: mappings; which of them lie at or ahead of a place; the last one of a line that is not behind it. -/
import Derived.Test.YtfpfpdjnmfiffaaFits
namespace Go.Proofs.Ytfpfpdjnmfiffaa
open Go.RowKit
set_option linter.unusedVariables false

structure Mp where
  (a0 a1 a2 a3 a4 a5 : Int)
namespace Mp
/-- The law's own bounds. -/
structure Fine (m : Mp) : Prop where
  (l0 : 0 ≤ m.a0) (h0 : m.a0 ≤ 1000) (l1 : 0 ≤ m.a1) (h1 : m.a1 ≤ 10000) (l2 : 0 ≤ m.a2) (h2 : m.a2 ≤ 1000) (l3 : 0 ≤ m.a3) (h3 : m.a3 ≤ 1000) (l4 : 0 ≤ m.a4) (h4 : m.a4 ≤ 10000) (l5 : -1 ≤ m.a5) (h5 : m.a5 ≤ 1000)
def le (m : Mp) (line col : Int) : Prop := m.a0 < line ∨ m.a0 = line ∧ m.a1 ≤ col
def hit (m : Mp) (line col : Int) : Prop := m.a0 = line ∧ m.a1 ≤ col
def before (m n : Mp) : Prop := m.a0 < n.a0 ∨ m.a0 = n.a0 ∧ m.a1 < n.a1
def name (m : Mp) : Int := if 0 ≤ m.a5 then 4294967295 - m.a5 else 0
def icells (m : Mp) : List Value := [.int .i64 m.a0, .int .i64 m.a1, .int .i64 m.a2, .int .i64 m.a3, .int .i64 m.a4, .int .i64 m.a5]
def scells (m : Mp) : List Value := [.int .i32 m.a0, .int .i32 m.a1, .int .i32 m.a2, .int .i32 m.a3, .int .i32 m.a4, .int .u32 m.name]
end Mp
/-- Each stands ahead of the next. -/
def Rising (l : List Mp) (k : Nat) : Prop := ∀ i (hi : i + 1 < l.length), i + 1 < k → (l[i]'(by omega)).before (l[i + 1])
def AllFine (l : List Mp) (k : Nat) : Prop := ∀ i (hi : i < l.length), i < k → (l[i]).Fine
theorem rising_lt {l : List Mp} (h : Rising l l.length) (i j : Nat) (hij : i < j) (hj : j < l.length) : (l[i]'(by omega)).before l[j] := by
  induction j with
  | zero => omega
  | succ j ih =>
    have h1 := h j hj hj
    rcases Nat.lt_or_ge i j with h2 | h2
    · have h3 := ih h2 (by omega)
      unfold Mp.before at *
      omega
    · obtain rfl : i = j := by omega
      exact h1
theorem le_down {l : List Mp} (h : Rising l l.length) {line col : Int} (i j : Nat) (hij : i ≤ j) (hj : j < l.length) (hl : (l[j]).le line col) : (l[i]'(by omega)).le line col := by
  rcases Nat.lt_or_ge i j with h2 | h2
  · have h1 := rising_lt h i j h2 hj
    unfold Mp.le Mp.before at *
    omega
  · obtain rfl : i = j := by omega
    exact hl
/-- The search's state: below i all are at or ahead, from i + c on none is. -/
def Cut (l : List Mp) (line col : Int) (i c : Nat) : Prop := i + c ≤ l.length ∧ (∀ j (hj : j < l.length), j < i → (l[j]).le line col) ∧ ∀ j (hj : j < l.length), i + c ≤ j → ¬ (l[j]).le line col
theorem Cut.start (l : List Mp) (line col : Int) : Cut l line col 0 l.length := ⟨by omega, fun j hj h => by omega, fun j hj h => by omega⟩
theorem Cut.up {l : List Mp} {line col : Int} {i c m : Nat} (hr : Rising l l.length) (h : Cut l line col i c) (h1 : i ≤ m) (h2 : m < i + c) (hl : m < l.length) (hm : (l[m]).le line col) : Cut l line col (m + 1) (i + c - (m + 1)) :=
  ⟨by have := h.1; omega, fun j hj hjm => le_down hr j m (by omega) hl hm, fun j hj hjm => h.2.2 j hj (by omega)⟩
theorem Cut.down {l : List Mp} {line col : Int} {i c m : Nat} (hr : Rising l l.length) (h : Cut l line col i c) (h1 : i ≤ m) (h2 : m < i + c) (hl : m < l.length) (hm : ¬ (l[m]).le line col) : Cut l line col i (m - i) :=
  ⟨by have := h.1; omega, h.2.1, fun j hj hjm hle => hm (le_down hr m j (by omega) hj hle)⟩
/-- The last hit among the first k. -/
def Last (l : List Mp) (line col : Int) (k : Nat) (o : Option Nat) : Prop :=
  match o with
  | none => ∀ j (hj : j < l.length), j < k → ¬ (l[j]).hit line col
  | some i => i < k ∧ ∃ hi : i < l.length, (l[i]).hit line col ∧ ∀ j (hj : j < l.length), i < j → j < k → ¬ (l[j]).hit line col
theorem Last.miss {l : List Mp} {line col : Int} {k : Nat} {o : Option Nat} (h : Last l line col k o) (hk : k < l.length) (hm : ¬ (l[k]).hit line col) : Last l line col (k + 1) o := by
  cases o with
  | none =>
    intro j hj hjk
    rcases Nat.lt_or_ge j k with h2 | h2
    · exact h j hj h2
    · obtain rfl : j = k := by omega
      exact hm
  | some i =>
    obtain ⟨h1, h2, h3, h4⟩ := h
    refine ⟨by omega, h2, h3, fun j hj hij hjk => ?_⟩
    rcases Nat.lt_or_ge j k with h5 | h5
    · exact h4 j hj hij h5
    · obtain rfl : j = k := by omega
      exact hm
theorem Last.hits {l : List Mp} {line col : Int} {k : Nat} (hk : k < l.length) (hm : (l[k]).hit line col) : Last l line col (k + 1) (some k) :=
  ⟨by omega, hk, hm, fun j hj h1 h2 => by omega⟩
/-- Where the search ends, the answer is the last hit. -/
theorem last_of_cut {l : List Mp} {line col : Int} {i : Nat} {o : Option Nat} (hr : Rising l l.length) (h : Cut l line col i 0) (ho : Last l line col l.length o) :
    (o = none ∧ (i = 0 ∨ ∃ hi : i - 1 < l.length, (l[i - 1]).a0 ≠ line)) ∨ (o = some (i - 1) ∧ 0 < i ∧ ∃ hi : i - 1 < l.length, (l[i - 1]).a0 = line) := by
  have h1 := h.1
  rcases Nat.eq_zero_or_pos i with h0 | h0
  · left
    refine ⟨?_, .inl h0⟩
    cases o with
    | none => rfl
    | some m =>
      obtain ⟨hm, hml, hh, _⟩ := ho
      exact absurd (Or.inr hh) (h.2.2 m hml (by omega))
  · have hi : i - 1 < l.length := by omega
    have hle := h.2.1 (i - 1) hi (by omega)
    by_cases hline : (l[i - 1]).a0 = line
    · right
      have hhit : (l[i - 1]).hit line col := by unfold Mp.hit Mp.le at *; omega
      refine ⟨?_, h0, hi, hline⟩
      cases o with
      | none => exact absurd hhit (ho (i - 1) hi hi)
      | some m =>
        obtain ⟨hm, hml, hh, hafter⟩ := ho
        congr 1
        rcases Nat.lt_trichotomy m (i - 1) with h2 | h2 | h2
        · exact absurd hhit (hafter (i - 1) hi h2 hi)
        · exact h2
        · exact absurd (Or.inr hh) (h.2.2 m hml (by omega))
    · left
      refine ⟨?_, .inr ⟨hi, hline⟩⟩
      cases o with
      | none => rfl
      | some m =>
        exfalso
        obtain ⟨hm, hml, hh, hafter⟩ := ho
        rcases Nat.lt_trichotomy m (i - 1) with h2 | h2 | h2
        · have h3 := rising_lt hr m (i - 1) h2 hi
          unfold Mp.hit Mp.le Mp.before at *
          omega
        · subst h2
          exact hline hh.1
        · exact h.2.2 m hml (by omega) (Or.inr hh)
end Go.Proofs.Ytfpfpdjnmfiffaa
