/- Plain: the signs of a text that are escaped, and the ones that are not. -/
import Derived.Test.YtmfbnmjmgpafmaaDoorPctA
namespace Go.Proofs.YtmfbnmjmgpafmaaDoor
set_option linter.unusedVariables false
set_option linter.unusedSimpArgs false
theorem part_get {s : ByteArray} {p n j : Nat} (hin : p + n ≤ s.size) (h1 : p ≤ j) (h2 : j < p + n) : (nums s).getD j 0 ∈ part s p n := by
  have hl : (part s p n).length = n := part_len hin
  have hj : j < (nums s).length := by rw [nums_len]; omega
  have h3 : (part s p n)[j - p]? = (nums s)[j]? := by
    unfold part
    rw [List.getElem?_take_of_lt (by omega), List.getElem?_drop, show p + (j - p) = j by omega]
  rw [List.getElem?_eq_getElem (by omega), List.getElem?_eq_getElem hj] at h3
  have h4 : (nums s).getD j 0 = (nums s)[j] := by simp [List.getD, List.getElem?_eq_getElem hj]
  rw [h4, ← Option.some.inj h3]
  exact List.getElem_mem _
theorem sign_at {s : ByteArray} {p r n : Nat} (h : Sign s p r n) (hr : r < 128) : (nums s).getD p 0 = r := by
  rcases h.kind with ⟨h1, _, h3⟩ | ⟨_, h1, _⟩
  · have := part_get h.inn (Nat.le_refl p) (by omega)
    rw [h3] at this
    simpa using this
  · omega
theorem sign_space {s : ByteArray} {p r n T : Nat} (h : Sign s p r n) (ht : Tail (nums s) T) (hp : p < s.size) (hT : T ≤ p) : r = 32 := by
  have h32 := ht.sp p hT (by rw [nums_len]; exact hp)
  rcases h.kind with ⟨h1, h2, h3⟩ | ⟨h1, h2, h3⟩
  · rw [← sign_at h h2]; exact h32
  · have := h3 _ (part_get h.inn (Nat.le_refl p) (by omega))
    omega
theorem raws {s : ByteArray} {p r n T : Nat} (h : Sign s p r n) (ht : Tail (nums s) T) (hT : p < T) (hr : r ≠ 9 ∧ r ≠ 10 ∧ r ≠ 13 ∧ r ≠ 35) (h37 : r = 37 → ¬ (p + 2 < s.size ∧ isHexN ((nums s).getD (p + 1) 0) = true ∧ isHexN ((nums s).getD (p + 2) 0) = true)) :
    ∀ j, p ≤ j → j < p + n → escD (nums s) T j = false := by
  intro j h1 h2
  have hin := h.inn
  rcases h.kind with ⟨k1, k2, k3⟩ | ⟨k1, k2, k3⟩
  · obtain rfl : j = p := by omega
    have hb := sign_at h k2
    unfold escD
    rw [hb, nums_len]
    have hn : ¬ T ≤ j := by omega
    obtain ⟨a1, a2, a3, a4⟩ := hr
    by_cases e : r = 37
    · have h5 := h37 e
      subst e
      simp only [hn, decide_false, Bool.or_false, Bool.or_eq_false_iff]
      refine ⟨by decide, ?_⟩
      cases hx1 : isHexN ((nums s).getD (j + 1) 0) <;> cases hx2 : isHexN ((nums s).getD (j + 2) 0) <;> simp_all
    · simp [hn, a1, a2, a3, a4, e]
  · have hb := k3 _ (part_get h.inn h1 h2)
    have hn : ¬ T ≤ j := fun hc => by have := ht.sp j hc (by rw [nums_len]; omega); omega
    unfold escD
    generalize (nums s).getD j 0 = b at hb ⊢
    have c1 : (b == 9) = false := by simp; omega
    have c2 : (b == 10) = false := by simp; omega
    have c3 : (b == 13) = false := by simp; omega
    have c4 : (b == 35) = false := by simp; omega
    have c5 : (b == 37) = false := by simp; omega
    simp [hn, c1, c2, c3, c4, c5]
theorem escs {s : ByteArray} {p r n T : Nat} (h : Sign s p r n) (hr : r < 128) (hc : r = 9 ∨ r = 10 ∨ r = 13 ∨ r = 35 ∨ T ≤ p ∨ (r = 37 ∧ p + 2 < s.size ∧ isHexN ((nums s).getD (p + 1) 0) = true ∧ isHexN ((nums s).getD (p + 2) 0) = true)) :
    escD (nums s) T p = true := by
  unfold escD
  rw [sign_at h hr, nums_len]
  rcases hc with rfl | rfl | rfl | rfl | hc | ⟨rfl, h1, h2, h3⟩ <;> simp_all
/-- A round's end, escaped or not. -/
theorem PSt.sign {s : ByteArray} {T : Nat} {hd acc : List Nat} {rs i r n : Nat} (h : PSt s T hd acc rs i) (hS : Sign s i r n) (ht : Tail (nums s) T) (hT : i < T) (hr : r ≠ 9 ∧ r ≠ 10 ∧ r ≠ 13 ∧ r ≠ 35) (h37 : r = 37 → ¬ (i + 2 < s.size ∧ isHexN ((nums s).getD (i + 1) 0) = true ∧ isHexN ((nums s).getD (i + 2) 0) = true)) : PSt s T hd acc rs (i + n) :=
  h.raw hS.inn (raws hS ht hT hr h37)
theorem PSt.signE {s : ByteArray} {T : Nat} {hd acc : List Nat} {rs i r n : Nat} (h : PSt s T hd acc rs i) (hS : Sign s i r n) (hi : i < s.size) (hr : r < 128) (hc : r = 9 ∨ r = 10 ∨ r = 13 ∨ r = 35 ∨ T ≤ i ∨ (r = 37 ∧ i + 2 < s.size ∧ isHexN ((nums s).getD (i + 1) 0) = true ∧ isHexN ((nums s).getD (i + 2) 0) = true)) : PSt s T hd (acc ++ part s rs (i - rs) ++ [37, hx (r / 16), hx (r % 16)]) (i + 1) (i + 1) :=
  h.esc hi (escs hS hr hc) (sign_at hS hr)
end Go.Proofs.YtmfbnmjmgpafmaaDoor
