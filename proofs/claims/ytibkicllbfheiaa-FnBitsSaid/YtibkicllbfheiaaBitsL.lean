/- Plain: sets of numbers as bits of bytes and as lists of truths. -/
import Derived.Laws.BitsAllLaws
namespace Go.Proofs.Ytibkicllbfheiaa
set_option linter.unusedVariables false

def bit (b : Bool) : Nat := if b then 1 else 0
def byte8 (f : Nat → Bool) : Nat := bit (f 0) + 2 * bit (f 1) + 4 * bit (f 2) + 8 * bit (f 3) + 16 * bit (f 4) + 32 * bit (f 5) + 64 * bit (f 6) + 128 * bit (f 7)
theorem bit_le (b : Bool) : bit b ≤ 1 := by cases b <;> decide
theorem byte8_lt (f : Nat → Bool) : byte8 f < 256 := by
  unfold byte8
  have := bit_le (f 0); have := bit_le (f 1); have := bit_le (f 2); have := bit_le (f 3); have := bit_le (f 4); have := bit_le (f 5); have := bit_le (f 6); have := bit_le (f 7)
  omega
theorem byte8_at (f : Nat → Bool) (t : Nat) (h : t < 8) : byte8 f / 2 ^ t % 2 = bit (f t) := by
  unfold byte8
  have h0 := bit_le (f 0); have h1 := bit_le (f 1); have h2 := bit_le (f 2); have h3 := bit_le (f 3); have h4 := bit_le (f 4); have h5 := bit_le (f 5); have h6 := bit_le (f 6); have h7 := bit_le (f 7)
  match t, h with
  | 0, _ => omega
  | 1, _ => omega
  | 2, _ => omega
  | 3, _ => omega
  | 4, _ => omega
  | 5, _ => omega
  | 6, _ => omega
  | 7, _ => omega
theorem bit_inj {a b : Bool} (h : bit a = bit b) : a = b := by cases a <;> cases b <;> first | rfl | cases h
theorem byte8_inj {f g : Nat → Bool} (h : byte8 f = byte8 g) (t : Nat) (ht : t < 8) : f t = g t := by
  have h1 := byte8_at f t ht
  rw [h, byte8_at g t ht] at h1
  exact bit_inj h1.symm
theorem byte8_and (f : Nat → Bool) (t : Nat) (h : t < 8) : byte8 f &&& 2 ^ t = bit (f t) * 2 ^ t := by rw [nat_bit, byte8_at f t h]
theorem byte8_congr {f g : Nat → Bool} (h : ∀ t, t < 8 → f t = g t) : byte8 f = byte8 g := by
  unfold byte8
  rw [h 0 (by omega), h 1 (by omega), h 2 (by omega), h 3 (by omega), h 4 (by omega), h 5 (by omega), h 6 (by omega), h 7 (by omega)]
theorem or_all : ∀ (a0 a1 a2 a3 a4 a5 a6 a7 : Bool) (t : Fin 8), (bit a0 + 2 * bit a1 + 4 * bit a2 + 8 * bit a3 + 16 * bit a4 + 32 * bit a5 + 64 * bit a6 + 128 * bit a7) ||| 2 ^ t.1 =
    bit (a0 || 0 == t.1) + 2 * bit (a1 || 1 == t.1) + 4 * bit (a2 || 2 == t.1) + 8 * bit (a3 || 3 == t.1) + 16 * bit (a4 || 4 == t.1) + 32 * bit (a5 || 5 == t.1) + 64 * bit (a6 || 6 == t.1) + 128 * bit (a7 || 7 == t.1) := by decide +kernel
theorem byte8_or (f : Nat → Bool) (t : Nat) (h : t < 8) : byte8 f ||| 2 ^ t = byte8 (fun i => f i || i == t) :=
  or_all (f 0) (f 1) (f 2) (f 3) (f 4) (f 5) (f 6) (f 7) ⟨t, h⟩

/-- The byte of eight numbers. -/
def mb (S : List Int) (j : Nat) : Nat := byte8 fun t => decide (((8 * j + t : Nat) : Int) ∈ S)
def mbs (m : Nat) (S : List Int) : List Nat := (List.range m).map (mb S)
def bm (n : Nat) (S : List Int) : List Bool := (List.range n).map fun j : Nat => decide ((j : Int) ∈ S)
theorem mb_lt (S : List Int) (j : Nat) : mb S j < 256 := byte8_lt _
theorem mb_set (S : List Int) (z : Nat) : mb S (z / 8) ||| 2 ^ (z % 8) = mb (S ++ [(z : Int)]) (z / 8) := by
  unfold mb
  rw [byte8_or _ _ (Nat.mod_lt _ (by decide))]
  refine byte8_congr fun t ht => ?_
  rw [Bool.eq_iff_iff]
  simp only [Bool.or_eq_true, decide_eq_true_eq, beq_iff_eq, List.mem_append, List.mem_singleton]
  refine or_congr Iff.rfl ?_
  constructor <;> intro h <;> omega
theorem mb_other (S : List Int) (z j : Nat) (h : j ≠ z / 8) : mb (S ++ [(z : Int)]) j = mb S j := by
  unfold mb
  refine byte8_congr fun t ht => ?_
  rw [Bool.eq_iff_iff]
  simp only [decide_eq_true_eq, List.mem_append, List.mem_singleton]
  constructor
  · rintro (h1 | h1)
    · exact h1
    · omega
  · exact Or.inl
theorem mbs_len (m : Nat) (S : List Int) : (mbs m S).length = m := by simp [mbs]
theorem mbs_at (m : Nat) (S : List Int) (j : Nat) (h : j < m) : (mbs m S)[j]? = some (mb S j) := by simp [mbs, h]
theorem mbs_set (m : Nat) (S : List Int) (z : Nat) (h : z / 8 < m) : (mbs m S).set (z / 8) (mb S (z / 8) ||| 2 ^ (z % 8)) = mbs m (S ++ [(z : Int)]) := by
  refine List.ext_getElem? fun j => ?_
  by_cases hj : j < m
  · rw [mbs_at _ _ _ hj, List.getElem?_set, mbs_len]
    by_cases e : z / 8 = j
    · subst e; rw [if_pos rfl, if_pos h, mb_set]
    · rw [if_neg e, mbs_at _ _ _ hj, mb_other S z j (by omega)]
  · rw [List.getElem?_eq_none (by rw [List.length_set, mbs_len]; omega), List.getElem?_eq_none (by rw [mbs_len]; omega)]
theorem mbs_nil (m : Nat) : mbs m [] = List.replicate m 0 := by
  refine List.ext_getElem (by simp [mbs]) fun j h1 h2 => ?_
  simp [mbs, mb, byte8, bit]
theorem has_and (S : List Int) (z : Nat) : mb S (z / 8) &&& 2 ^ (z % 8) = bit (decide ((z : Int) ∈ S)) * 2 ^ (z % 8) := by
  unfold mb
  rw [byte8_and _ _ (Nat.mod_lt _ (by decide))]
  rw [show ((8 * (z / 8) + z % 8 : Nat) : Int) = (z : Int) by omega]
theorem bm_len (n : Nat) (S : List Int) : (bm n S).length = n := by simp [bm]
theorem bm_at (n : Nat) (S : List Int) (j : Nat) (h : j < n) : (bm n S)[j]? = some (decide ((j : Int) ∈ S)) := by simp [bm, h]
theorem bm_set (n : Nat) (S : List Int) (z : Nat) (h : z < n) : (bm n S).set z true = bm n (S ++ [(z : Int)]) := by
  refine List.ext_getElem? fun j => ?_
  by_cases hj : j < n
  · rw [bm_at _ _ _ hj, List.getElem?_set, bm_len]
    by_cases e : z = j
    · subst e; rw [if_pos rfl, if_pos h]; simp
    · rw [if_neg e, bm_at _ _ _ hj]
      congr 1
      rw [Bool.eq_iff_iff]
      simp only [decide_eq_true_eq, List.mem_append, List.mem_singleton]
      constructor
      · exact Or.inl
      · rintro (h1 | h1)
        · exact h1
        · omega
  · rw [List.getElem?_eq_none (by rw [List.length_set, bm_len]; omega), List.getElem?_eq_none (by rw [bm_len]; omega)]
theorem bm_nil (n : Nat) : bm n [] = List.replicate n false := by
  refine List.ext_getElem (by simp [bm]) fun j h1 h2 => ?_
  simp [bm]
/-- The same numbers below n. -/
def sameB (n : Nat) (S T : List Int) : Bool := decide (∀ j, j < n → (decide ((j : Int) ∈ S) = decide ((j : Int) ∈ T)))
theorem same_zero (S T : List Int) : sameB 0 S T = true := by simp [sameB]
theorem same_succ (n : Nat) (S T : List Int) : sameB (n + 1) S T = (sameB n S T && (decide ((n : Int) ∈ S) == decide ((n : Int) ∈ T))) := by
  rw [Bool.eq_iff_iff]
  simp only [sameB, Bool.and_eq_true, decide_eq_true_eq, beq_iff_eq]
  constructor
  · intro h; exact ⟨fun j hj => h j (by omega), h n (by omega)⟩
  · rintro ⟨h1, h2⟩ j hj
    rcases Nat.lt_or_ge j n with h | h
    · exact h1 j h
    · obtain rfl : j = n := by omega
      exact h2
theorem same_bytes (n : Nat) (S T : List Int) (hS : ∀ x ∈ S, 0 ≤ x ∧ x < n) (hT : ∀ x ∈ T, 0 ≤ x ∧ x < n) : decide (mbs ((n + 7) / 8) S = mbs ((n + 7) / 8) T) = sameB n S T := by
  rw [Bool.eq_iff_iff]
  simp only [decide_eq_true_eq, sameB]
  constructor
  · intro h j hj
    have h1 : (mbs ((n + 7) / 8) S)[j / 8]? = (mbs ((n + 7) / 8) T)[j / 8]? := by rw [h]
    rw [mbs_at _ _ _ (by omega), mbs_at _ _ _ (by omega)] at h1
    have h2 := byte8_inj (Option.some.inj h1) (j % 8) (Nat.mod_lt _ (by decide))
    simp only [show ((8 * (j / 8) + j % 8 : Nat) : Int) = (j : Int) by omega] at h2
    exact h2
  · intro h
    refine List.ext_getElem? fun j => ?_
    by_cases hj : j < (n + 7) / 8
    · rw [mbs_at _ _ _ hj, mbs_at _ _ _ hj]
      congr 1
      refine byte8_congr fun t ht => ?_
      by_cases h3 : 8 * j + t < n
      · exact h _ h3
      · rw [decide_eq_false (fun h4 => by have := hS _ h4; omega), decide_eq_false (fun h4 => by have := hT _ h4; omega)]
    · rw [List.getElem?_eq_none (by rw [mbs_len]; omega), List.getElem?_eq_none (by rw [mbs_len]; omega)]
end Go.Proofs.Ytibkicllbfheiaa
