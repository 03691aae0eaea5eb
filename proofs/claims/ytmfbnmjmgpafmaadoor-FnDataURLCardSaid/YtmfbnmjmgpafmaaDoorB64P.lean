/- Plain: base 64. -/
import Derived.Test.YtmfbnmjmgpafmaaDoorPctP
namespace Go.Proofs.YtmfbnmjmgpafmaaDoor
set_option linter.unusedVariables false
set_option linter.unusedSimpArgs false
def alph : ByteArray := ⟨#[65, 66, 67, 68, 69, 70, 71, 72, 73, 74, 75, 76, 77, 78, 79, 80, 81, 82, 83, 84, 85, 86, 87, 88, 89, 90, 97, 98, 99, 100, 101, 102, 103, 104, 105, 106, 107, 108, 109, 110, 111, 112, 113, 114, 115, 116, 117, 118, 119, 120, 121, 122, 48, 49, 50, 51, 52, 53, 54, 55, 56, 57, 43, 47]⟩
/-- A digit's sign. -/
def dg (d : Nat) : Nat := (nums alph).getD d 0
/-- A sign's digit; 255: it is none. -/
def dv (c : Nat) : Nat := if 65 ≤ c ∧ c ≤ 90 then c - 65 else if 97 ≤ c ∧ c ≤ 122 then c - 71 else if 48 ≤ c ∧ c ≤ 57 then c + 4 else if c = 43 then 62 else if c = 47 then 63 else 255
theorem dg_facts (d : Nat) (h : d < 64) : dv (dg d) = d ∧ dg d < 128 ∧ dg d ≠ 61 ∧ 32 < dg d ∧ dg d ≠ 44 := by
  have : ∀ d : Fin 64, dv (dg d.val) = d.val ∧ dg d.val < 128 ∧ dg d.val ≠ 61 ∧ 32 < dg d.val ∧ dg d.val ≠ 44 := by decide +kernel
  exact this ⟨d, h⟩
def b64 : List Nat → List Nat
  | a :: b :: c :: r => dg ((a * 65536 + b * 256 + c) / 262144 % 64) :: dg ((a * 65536 + b * 256 + c) / 4096 % 64) :: dg ((a * 65536 + b * 256 + c) / 64 % 64) :: dg ((a * 65536 + b * 256 + c) % 64) :: b64 r
  | [a, b] => [dg ((a * 65536 + b * 256) / 262144 % 64), dg ((a * 65536 + b * 256) / 4096 % 64), dg ((a * 65536 + b * 256) / 64 % 64), 61]
  | [a] => [dg (a * 65536 / 262144 % 64), dg (a * 65536 / 4096 % 64), 61, 61]
  | [] => []
theorem b64_len (k : Nat) : ∀ l : List Nat, l.length ≤ k → (b64 l).length = (l.length + 2) / 3 * 4 := by
  induction k with
  | zero => intro l h; obtain rfl := List.eq_nil_of_length_eq_zero (by omega : l.length = 0); rfl
  | succ k ih =>
    intro l h
    match l, h with
    | [], _ => rfl
    | [a], _ => simp [b64]
    | [a, b], _ => simp [b64]
    | a :: b :: c :: r, h =>
      simp only [List.length_cons] at h
      have := ih r (by omega)
      simp only [b64, List.length_cons, this]
      omega
theorem b64_lt (k : Nat) : ∀ l : List Nat, l.length ≤ k → ∀ x ∈ b64 l, x < 128 ∧ 32 < x ∧ x ≠ 44 := by
  have f : ∀ v, dg (v % 64) < 128 ∧ 32 < dg (v % 64) ∧ dg (v % 64) ≠ 44 := fun v => by
    have := dg_facts (v % 64) (by omega)
    exact ⟨this.2.1, this.2.2.2.1, this.2.2.2.2⟩
  induction k with
  | zero => intro l h; obtain rfl := List.eq_nil_of_length_eq_zero (by omega : l.length = 0); intro x hx; cases hx
  | succ k ih =>
    intro l h x hx
    match l, h, hx with
    | [], _, hx => cases hx
    | [a], _, hx =>
      simp only [b64, List.mem_cons, List.not_mem_nil, or_false] at hx
      rcases hx with rfl | rfl | rfl | rfl <;> first | exact f _ | omega
    | [a, b], _, hx =>
      simp only [b64, List.mem_cons, List.not_mem_nil, or_false] at hx
      rcases hx with rfl | rfl | rfl | rfl <;> first | exact f _ | omega
    | a :: b :: c :: r, h, hx =>
      simp only [List.length_cons] at h
      simp only [b64, List.mem_cons] at hx
      rcases hx with rfl | rfl | rfl | rfl | hx
      · exact f _
      · exact f _
      · exact f _
      · exact f _
      · exact ih r (by omega) x hx
/-- The rest of the signs are those of the rest of the bytes. -/
theorem b64_drop (k : Nat) : ∀ l : List Nat, 3 * k ≤ l.length → (b64 l).drop (4 * k) = b64 (l.drop (3 * k)) := by
  induction k with
  | zero => intro l _; rfl
  | succ k ih =>
    intro l h
    match l, h with
    | [], h => simp at h
    | [a], h => simp at h; omega
    | [a, b], h => simp at h; omega
    | a :: b :: c :: r, h =>
      simp only [List.length_cons] at h
      have := ih r (by omega)
      rw [show 4 * (k + 1) = 4 * k + 1 + 1 + 1 + 1 by omega, show 3 * (k + 1) = 3 * k + 1 + 1 + 1 by omega]
      simp only [b64, List.drop_succ_cons]
      exact this
end Go.Proofs.YtmfbnmjmgpafmaaDoor
