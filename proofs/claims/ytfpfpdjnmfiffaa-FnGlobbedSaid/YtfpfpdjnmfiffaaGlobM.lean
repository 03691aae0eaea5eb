/- Plain: the marked parts, one by one; the text that is kept at each place; what the parts' checks give. -/
import Derived.Test.YtfpfpdjnmfiffaaGlobT
namespace Go.Proofs.Ytfpfpdjnmfiffaa
open Go.RowKit
set_option linter.unusedVariables false

theorem marked_length : ∀ ps : List ByteArray, (marked ps).length = ps.length
  | [] => rfl
  | [p] => rfl
  | p :: q :: r => by
    have ih := marked_length (q :: r)
    show (marked (q :: r)).length + 1 = _
    rw [ih]; rfl
theorem marked_at : ∀ (ps : List ByteArray) (k : Nat) (hk : k < ps.length), (marked ps)[k]? = some (ps[k], if k + 1 = ps.length then 0 else 1)
  | [p], 0, _ => by simp [marked]
  | p :: q :: r, 0, _ => by simp [marked]
  | p :: q :: r, k + 1, h => by
    have ih := marked_at (q :: r) k (by simpa using h)
    have e : marked (p :: q :: r) = (p, 1) :: marked (q :: r) := rfl
    rw [e, List.getElem?_cons_succ, ih]
    simp
theorem marked_get (ps : List ByteArray) (k : Nat) (hk : k < ps.length) (h : k < (marked ps).length) : (marked ps)[k] = (ps[k], if k + 1 = ps.length then 0 else 1) := by
  have := marked_at ps k hk
  rw [List.getElem?_eq_getElem h] at this
  exact Option.some.inj this
theorem marked_01 (ps : List ByteArray) : ∀ x ∈ marked ps, x.2 = 0 ∨ x.2 = 1 := by
  intro x hx
  obtain ⟨k, hk, rfl⟩ := List.mem_iff_getElem.1 hx
  rw [marked_get ps k (by rw [← marked_length]; exact hk) hk]
  dsimp only
  split <;> simp
/-- Each part ahead of place k is checked. -/
def Checked (ps : List ByteArray) (k : Nat) : Prop := ∀ i (hi : i < ps.length), i < k → ps[i].size ≤ 30 ∧ (42 : UInt8) ∉ ps[i].data.toList ∧ (0 < i → i + 1 < ps.length → 0 < ps[i].size)
theorem Checked.step {ps : List ByteArray} {k : Nat} (h : Checked ps k) (hk : k < ps.length) (h1 : ps[k].size ≤ 30) (h2 : (42 : UInt8) ∉ ps[k].data.toList) (h3 : 0 < k → k + 1 < ps.length → 0 < ps[k].size) : Checked ps (k + 1) := by
  intro i hi hik
  rcases Nat.lt_or_ge i k with h4 | h4
  · exact h i hi h4
  · obtain rfl : i = k := by omega
    exact ⟨h1, h2, h3⟩
theorem inner_of : ∀ (l : List (List UInt8)), (∀ i (hi : i < l.length), i + 1 < l.length → l[i] ≠ []) → Glob.Inner l
  | [], _ => trivial
  | [_], _ => trivial
  | p :: q :: r, h => ⟨h 0 (by simp) (by simp), inner_of (q :: r) (fun i hi h2 e => h (i + 1) (by simpa using hi) (by simpa using h2) e)⟩
theorem checked_left {ps : List ByteArray} {T : ByteArray} (h : Checked ps ps.length) (hne : ps ≠ []) (hT : T.data.toList = textOf (marked ps)) : Left ps [] ps T := by
  refine ⟨rfl, hne, by rw [hT, textOf_marked], ?_, ?_, by simp⟩
  · refine inner_of _ fun i hi h2 => ?_
    have hi' : i + 1 < ps.length := by simp [lists] at hi; omega
    have h2' : i + 1 + 1 < ps.length := by simp [lists] at h2; omega
    have := (h (i + 1) hi' hi').2.2 (by omega) h2'
    intro e
    have e1 : (lists ps.tail)[i] = ps[i + 1].data.toList := by simp [lists]
    rw [e1] at e
    have e2 := len_list ps[i + 1]
    rw [e] at e2
    simp only [List.length_nil] at e2
    omega
  · intro p hp
    simp only [lists, List.mem_map] at hp
    obtain ⟨x, hx, rfl⟩ := hp
    obtain ⟨i, hi, rfl⟩ := List.mem_iff_getElem.1 hx
    exact (h i hi hi).2.1
theorem textOf_small (ps : List ByteArray) (k : Nat) (hk : k ≤ ps.length) (h : Checked ps k) : (textOf ((marked ps).take k)).length ≤ 31 * k := by
  induction k with
  | zero => simp [textOf]
  | succ k ih =>
    have hk' : k < ps.length := by omega
    have hm : k < (marked ps).length := by rw [marked_length]; exact hk'
    have ih' := ih (by omega) (fun i hi h2 => h i hi (by omega))
    have h1 := (h k hk' (by omega)).1
    rw [textOf_take _ _ hm, marked_get ps k hk' hm]
    simp only [List.length_append, len_list]
    split <;> simp <;> omega
end Go.Proofs.Ytfpfpdjnmfiffaa
