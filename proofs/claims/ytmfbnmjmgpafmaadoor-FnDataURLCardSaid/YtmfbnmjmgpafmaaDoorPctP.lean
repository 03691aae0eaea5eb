/- Plain: a text, percent-escaped, and read again. -/
import Derived.Test.YtmfbnmjmgpafmaaDoorNumP
namespace Go.Proofs.YtmfbnmjmgpafmaaDoor
set_option linter.unusedVariables false
set_option linter.unusedSimpArgs false
theorem part_zero (s : ByteArray) (p : Nat) : part s p 0 = [] := by simp [part]
theorem part_len {s : ByteArray} {p n : Nat} (h : p + n ≤ s.size) : (part s p n).length = n := by
  rw [part, List.length_take, List.length_drop, nums_len]; omega
theorem part_cons {s : ByteArray} {p n : Nat} (h : p + (n + 1) ≤ s.size) : ∃ b, (nums s)[p]? = some b ∧ part s p (n + 1) = b :: part s (p + 1) n := by
  have hp : p < (nums s).length := by rw [nums_len]; omega
  refine ⟨(nums s)[p], List.getElem?_eq_getElem hp, ?_⟩
  unfold part
  rw [List.drop_eq_getElem_cons hp, List.take_succ_cons]
theorem part_app {s : ByteArray} {p n m : Nat} : part s p (n + m) = part s p n ++ part s (p + n) m := by
  unfold part
  rw [List.take_add, List.drop_drop]
def isHexN (b : Nat) : Bool := (decide (48 ≤ b) && decide (b ≤ 57)) || (decide (97 ≤ b) && decide (b ≤ 102)) || (decide (65 ≤ b) && decide (b ≤ 70))
/-- Is the byte at this place escaped? -/
def escD (t : List Nat) (T i : Nat) : Bool :=
  t.getD i 0 == 9 || t.getD i 0 == 10 || t.getD i 0 == 13 || t.getD i 0 == 35 || decide (T ≤ i) || (t.getD i 0 == 37 && decide (i + 2 < t.length) && isHexN (t.getD (i + 1) 0) && isHexN (t.getD (i + 2) 0))
def pctAt (t : List Nat) (T i : Nat) : List Nat := if escD t T i = true then [37, hx (t.getD i 0 / 16), hx (t.getD i 0 % 16)] else [t.getD i 0]
def pctFrom (t : List Nat) (T i : Nat) : List Nat := if h : i < t.length then pctAt t T i ++ pctFrom t T (i + 1) else []
termination_by t.length - i
theorem pct_end {t : List Nat} {T i : Nat} (h : ¬ i < t.length) : pctFrom t T i = [] := by rw [pctFrom, dif_neg h]
theorem pct_step {t : List Nat} {T i : Nat} (h : i < t.length) : pctFrom t T i = pctAt t T i ++ pctFrom t T (i + 1) := by rw [pctFrom, dif_pos h]
/-- The text's bytes, and where its trailing spaces begin. -/
structure Tail (t : List Nat) (T : Nat) : Prop where
  lt : ∀ b ∈ t, b < 256
  sp : ∀ i, T ≤ i → i < t.length → t.getD i 0 = 32
theorem Tail.at {t : List Nat} {T : Nat} (h : Tail t T) (i : Nat) : t.getD i 0 < 256 := by
  by_cases hi : i < t.length
  · have : t.getD i 0 = t[i] := by simp [List.getD, List.getElem?_eq_getElem hi]
    rw [this]; exact h.lt _ (List.getElem_mem _)
  · have : t.getD i 0 = 0 := by simp [List.getD, List.getElem?_eq_none (Nat.le_of_not_lt hi)]
    omega
/-- An escaped byte is one of ASCII. -/
theorem esc_low {t : List Nat} {T i : Nat} (h : Tail t T) (hi : i < t.length) (he : escD t T i = true) : t.getD i 0 < 128 := by
  unfold escD at he
  simp only [Bool.or_eq_true, Bool.and_eq_true, beq_iff_eq, decide_eq_true_eq] at he
  rcases he with ((((h1 | h1) | h1) | h1) | h1) | h1
  · omega
  · omega
  · omega
  · omega
  · have := h.sp i h1 hi; omega
  · omega
def hexVal (b : Nat) : Nat := if 48 ≤ b ∧ b ≤ 57 then b - 48 else if 97 ≤ b ∧ b ≤ 102 then b - 87 else b - 55
theorem hx_hex (d : Nat) (h : d < 16) : isHexN (hx d) = true ∧ hexVal (hx d) = d := by
  have : ∀ d : Fin 16, isHexN (hx d.val) = true ∧ hexVal (hx d.val) = d.val := by decide +kernel
  exact this ⟨d, h⟩
theorem hx_range (d : Nat) (h : d < 16) : (48 ≤ hx d ∧ hx d ≤ 57) ∨ (65 ≤ hx d ∧ hx d ≤ 70) := by
  unfold hx
  split <;> omega
/-- Percent-escapes are read. -/
def unp : List Nat → List Nat
  | a :: b :: c :: r => if a = 37 ∧ isHexN b = true ∧ isHexN c = true then (16 * hexVal b + hexVal c) :: unp r else a :: unp (b :: c :: r)
  | a :: r => a :: unp r
  | [] => []
theorem unp_esc {b : Nat} {r : List Nat} (hb : b < 256) : unp (37 :: hx (b / 16) :: hx (b % 16) :: r) = b :: unp r := by
  have h1 := hx_hex (b / 16) (by omega)
  have h2 := hx_hex (b % 16) (by omega)
  rw [unp, if_pos ⟨rfl, h1.1, h2.1⟩, h1.2, h2.2]
  congr 1
  omega
theorem unp_raw {a : Nat} {r : List Nat} (h : ¬ (a = 37 ∧ ∃ b c l, r = b :: c :: l ∧ isHexN b = true ∧ isHexN c = true)) : unp (a :: r) = a :: unp r := by
  match r with
  | [] => rfl
  | [b] => rfl
  | b :: c :: l =>
    rw [unp, if_neg]
    rintro ⟨h1, h2, h3⟩
    exact h ⟨h1, b, c, l, rfl, h2, h3⟩
/-- What stands first in the escaped text: a raw byte that is a digit of sixteen is the text's own. -/
theorem pct_head {t : List Nat} {T i b : Nat} {l : List Nat} (h : pctFrom t T i = b :: l) (hb : isHexN b = true) : i < t.length ∧ t.getD i 0 = b ∧ pctFrom t T (i + 1) = l := by
  by_cases hi : i < t.length
  · rw [pct_step hi, pctAt] at h
    split at h
    · simp at h
      rw [← h.1] at hb
      simp [isHexN] at hb
    · simp at h
      exact ⟨hi, h.1, h.2⟩
  · rw [pct_end hi] at h; cases h
theorem unp_pct {t : List Nat} {T : Nat} (h : Tail t T) (k : Nat) : ∀ i, t.length - i ≤ k → unp (pctFrom t T i) = t.drop i := by
  induction k with
  | zero => intro i hk; rw [pct_end (by omega), List.drop_eq_nil_of_le (by omega)]; rfl
  | succ k ih =>
    intro i hk
    by_cases hi : i < t.length
    · have hd : t.drop i = t.getD i 0 :: t.drop (i + 1) := by
        rw [List.drop_eq_getElem_cons hi]
        simp [List.getD, List.getElem?_eq_getElem hi]
      have ih' := ih (i + 1) (by omega)
      rw [pct_step hi, hd]
      cases he : escD t T i with
      | true =>
        have hl := esc_low h hi he
        rw [pctAt, if_pos he]
        show unp (37 :: hx (t.getD i 0 / 16) :: hx (t.getD i 0 % 16) :: pctFrom t T (i + 1)) = _
        rw [unp_esc (by omega), ih']
      | false =>
        rw [pctAt, if_neg (by simp [he])]
        show unp (t.getD i 0 :: pctFrom t T (i + 1)) = _
        rw [unp_raw, ih']
        rintro ⟨e37, b, c, l, hl, hb, hc⟩
        obtain ⟨h1, h2, h3⟩ := pct_head hl hb
        obtain ⟨h4, h5, _⟩ := pct_head h3 hc
        unfold escD at he
        simp only [Bool.or_eq_false_iff, Bool.and_eq_false_iff] at he
        have h6 := he.2
        rw [e37, h2, show i + 1 + 1 = i + 2 from rfl] at *
        rw [h5, hb, hc] at h6
        have h7 : i + 2 < t.length := h4
        simp [h7] at h6
    · rw [pct_end hi, List.drop_eq_nil_of_le (by omega)]; rfl
theorem pct_plain {t : List Nat} {T : Nat} (h : Tail t T) (k : Nat) : ∀ i, t.length - i ≤ k → ∀ b ∈ pctFrom t T i, b ≠ 9 ∧ b ≠ 10 ∧ b ≠ 13 ∧ b ≠ 35 ∧ b < 256 := by
  induction k with
  | zero => intro i hk b hb; rw [pct_end (by omega)] at hb; cases hb
  | succ k ih =>
    intro i hk b hb
    by_cases hi : i < t.length
    · rw [pct_step hi] at hb
      rcases List.mem_append.1 hb with hb | hb
      · unfold pctAt at hb
        split at hb
        · have hl := h.at i
          have r1 := hx_range (t.getD i 0 / 16) (by omega)
          have r2 := hx_range (t.getD i 0 % 16) (by omega)
          simp only [List.mem_cons, List.not_mem_nil, or_false] at hb
          rcases hb with rfl | rfl | rfl <;> omega
        · rename_i he
          simp only [List.mem_cons, List.not_mem_nil, or_false] at hb
          have hl := h.at i
          unfold escD at he
          simp at he
          rw [hb]
          refine ⟨?_, ?_, ?_, ?_, hl⟩
          all_goals (intro e; simp [List.getD] at e; simp [e] at he)
      · exact ih (i + 1) (by omega) b hb
    · rw [pct_end hi] at hb; cases hb
end Go.Proofs.YtmfbnmjmgpafmaaDoor
