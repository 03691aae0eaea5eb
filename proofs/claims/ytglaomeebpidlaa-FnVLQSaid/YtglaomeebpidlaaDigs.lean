/- Plain: a number's digits in base 32, each but the last with the mark 32; what they add up to. -/
namespace Go.Proofs.Ytglaomeebpidlaa

def digs (V : Nat) : List Nat := if h : V < 32 then [V] else (V % 32 + 32) :: digs (V / 32)
termination_by V
decreasing_by omega
theorem digs_last {V : Nat} (h : V < 32) : digs V = [V] := by rw [digs, dif_pos h]
theorem digs_more {V : Nat} (h : 32 ≤ V) : digs V = (V % 32 + 32) :: digs (V / 32) := by rw [digs, dif_neg (by omega)]
theorem digs_lt (V : Nat) : ∀ d ∈ digs V, d < 64 := by
  induction V using Nat.strongRecOn with
  | ind V ih =>
    by_cases h : V < 32
    · rw [digs_last h]; intro d hd; simp at hd; omega
    · rw [digs_more (by omega)]
      intro d hd
      rcases List.mem_cons.1 hd with rfl | hd
      · omega
      · exact ih (V / 32) (by omega) d hd
theorem digs_len (V k : Nat) (h : V < 32 ^ (k + 1)) : (digs V).length ≤ k + 1 := by
  induction k generalizing V with
  | zero => rw [digs_last (by simpa using h)]; simp
  | succ k ih =>
    by_cases h1 : V < 32
    · rw [digs_last h1]; simp
    · rw [digs_more (by omega), List.length_cons]
      have := ih (V / 32) (by rw [Nat.div_lt_iff_lt_mul (by decide)]; rw [Nat.pow_succ] at h; omega)
      omega
/-- Setting bits that are free is adding. -/
theorem or_free (a d s : Nat) (ha : a < 2 ^ s) : a ||| (d * 2 ^ s) = a + d * 2 ^ s := by
  have h := Nat.two_pow_add_eq_or_of_lt ha d
  rw [Nat.or_comm, Nat.mul_comm, ← h]
  omega
end Go.Proofs.Ytglaomeebpidlaa
