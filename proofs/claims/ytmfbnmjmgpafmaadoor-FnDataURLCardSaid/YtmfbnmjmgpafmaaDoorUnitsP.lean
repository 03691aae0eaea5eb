/- Plain: a text's UTF-16 units, sign by sign. -/
import Derived.Laws.RangeAny
import Derived.RowKit
namespace Go.Proofs.YtmfbnmjmgpafmaaDoor
set_option linter.unusedVariables false

theorem decode_top (s : ByteArray) (pos : Nat) : (Utf8.decode s pos).1 ≤ 1114111 := by
  have hb : ∀ k, (s.get! (pos + k)).toNat < 256 := fun k => (s.get! (pos + k)).toNat_lt
  have h0 := hb 0; have h1 := hb 1; have h2 := hb 2; have h3 := hb 3
  simp only [Utf8.decode]
  repeat' split
  all_goals simp_all [Utf8.runeError, Utf8.valid]
  all_goals omega
theorem decode_wide (s : ByteArray) (pos : Nat) : 1 ≤ (Utf8.decode s pos).2 ∧ (Utf8.decode s pos).2 ≤ 4 := by
  simp only [Utf8.decode]
  repeat' split
  all_goals simp
theorem decode_in (s : ByteArray) (pos : Nat) (h : pos < s.size) : pos + (Utf8.decode s pos).2 ≤ s.size := by
  simp only [Utf8.decode]
  repeat' split
  all_goals simp_all
  all_goals omega
/-- At this place stands no U+FFFD that is written out. -/
def badAt (s : ByteArray) (pos : Nat) : Bool := decide (s.size < pos + 3) || !((s.extract pos (pos + 3)).toList == [239, 191, 189])
def unitsOf (r : Nat) : List Nat := if 65535 < r then [55296 + (r - 65536) / 1024, 56320 + (r - 65536) % 1024] else [r]
def unitsFrom (s : ByteArray) (pos : Nat) : Option (List Nat) :=
  if h : pos < s.size then
    if (Utf8.decode s pos).1 = 65533 ∧ badAt s pos = true then none
    else (unitsFrom s (pos + (Utf8.decode s pos).2)).map (unitsOf (Utf8.decode s pos).1 ++ ·)
  else some []
termination_by s.size - pos
decreasing_by have := decode_wide s pos; omega
theorem units_end {s : ByteArray} {pos : Nat} (h : ¬ pos < s.size) : unitsFrom s pos = some [] := by rw [unitsFrom, dif_neg h]
theorem units_bad {s : ByteArray} {pos : Nat} (h : pos < s.size) (h1 : (Utf8.decode s pos).1 = 65533) (h2 : badAt s pos = true) : unitsFrom s pos = none := by rw [unitsFrom, dif_pos h, if_pos ⟨h1, h2⟩]
theorem units_step {s : ByteArray} {pos : Nat} (h : pos < s.size) (h1 : ¬ ((Utf8.decode s pos).1 = 65533 ∧ badAt s pos = true)) : unitsFrom s pos = (unitsFrom s (pos + (Utf8.decode s pos).2)).map (unitsOf (Utf8.decode s pos).1 ++ ·) := by
  rw [unitsFrom, dif_pos h, if_neg h1]
/-- What has been gathered, and what is still to come. -/
def Gathered (s : ByteArray) (acc : List Nat) (pos : Nat) : Prop := (unitsFrom s pos).map (acc ++ ·) = unitsFrom s 0
theorem gathered_start (s : ByteArray) : Gathered s [] 0 := by
  unfold Gathered
  cases unitsFrom s 0 <;> simp
theorem Gathered.step {s : ByteArray} {acc : List Nat} {pos : Nat} (h : Gathered s acc pos) (hp : pos < s.size) (h1 : ¬ ((Utf8.decode s pos).1 = 65533 ∧ badAt s pos = true)) :
    Gathered s (acc ++ unitsOf (Utf8.decode s pos).1) (pos + (Utf8.decode s pos).2) := by
  unfold Gathered at *
  rw [units_step hp h1] at h
  rw [← h]
  cases unitsFrom s (pos + (Utf8.decode s pos).2) <;> simp
theorem Gathered.bad {s : ByteArray} {acc : List Nat} {pos : Nat} (h : Gathered s acc pos) (hp : pos < s.size) (h1 : (Utf8.decode s pos).1 = 65533) (h2 : badAt s pos = true) : unitsFrom s 0 = none := by
  unfold Gathered at h
  rw [units_bad hp h1 h2] at h
  exact h.symm
theorem Gathered.all {s : ByteArray} {acc : List Nat} {pos : Nat} (h : Gathered s acc pos) (hp : ¬ pos < s.size) : unitsFrom s 0 = some acc := by
  unfold Gathered at h
  rw [units_end hp] at h
  simpa using h.symm
theorem unitsOf_one {r : Nat} (h : r ≤ 65535) : unitsOf r = [r] := by rw [unitsOf, if_neg (by omega)]
theorem unitsOf_two {r : Nat} (h : 65536 ≤ r) : unitsOf r = [55296 + (r - 65536) / 1024, 56320 + (r - 65536) % 1024] := by rw [unitsOf, if_pos (by omega)]
theorem units_le_at {s : ByteArray} (k : Nat) : ∀ (pos : Nat) (l : List Nat), s.size - pos ≤ k → pos ≤ s.size → unitsFrom s pos = some l → l.length ≤ 2 * (s.size - pos) := by
  induction k with
  | zero => intro pos l hk hp h; rw [units_end (by omega)] at h; obtain rfl := Option.some.inj h; simp
  | succ k ih =>
    intro pos l hk hp h
    by_cases hlt : pos < s.size
    · by_cases hb : (Utf8.decode s pos).1 = 65533 ∧ badAt s pos = true
      · rw [units_bad hlt hb.1 hb.2] at h; cases h
      · rw [units_step hlt hb] at h
        have h1 := decode_wide s pos
        have h2 := decode_in s pos hlt
        cases h3 : unitsFrom s (pos + (Utf8.decode s pos).2) with
        | none => rw [h3] at h; cases h
        | some l2 =>
          rw [h3] at h
          have h4 := ih _ l2 (by omega) (by omega) h3
          simp at h
          subst h
          rw [List.length_append]
          have : (unitsOf (Utf8.decode s pos).1).length ≤ 2 := by unfold unitsOf; split <;> simp
          omega
    · rw [units_end hlt] at h; obtain rfl := Option.some.inj h; simp
theorem units_le {s : ByteArray} {l : List Nat} (h : unitsFrom s 0 = some l) : l.length ≤ 2 * s.size := units_le_at s.size 0 l (by omega) (by omega) h
/-- Signs of ASCII are their own units. -/
theorem units_ascii (s : ByteArray) (l : List UInt8) (ha : ∀ b ∈ l, b.toNat < 128) (rest : List UInt8) (pos : Nat) (hs : s.data.toList.drop pos = l ++ rest) :
    unitsFrom s pos = (unitsFrom s (pos + l.length)).map (l.map UInt8.toNat ++ ·) := by
  induction l generalizing pos with
  | nil => cases h : unitsFrom s pos <;> simp
  | cons b l ih =>
    have hlt : pos < s.data.toList.length := by
      rcases Nat.lt_or_ge pos s.data.toList.length with h | h
      · exact h
      · rw [List.drop_eq_nil_of_le h] at hs; simp at hs
    have hlt2 : pos < s.size := by simpa using hlt
    rw [List.drop_eq_getElem_cons hlt] at hs
    simp only [List.cons_append, List.cons.injEq] at hs
    have hb : (s[pos]'hlt2) = b := hs.1
    have h0 := ha b (List.mem_cons_self ..)
    have hd : Utf8.decode s pos = (b.toNat, 1) := by rw [decode_ascii s pos hlt2 (by rw [hb]; exact h0), hb]
    rw [units_step hlt2 (by rw [hd]; simp; omega), hd, ih (fun x hx => ha x (List.mem_cons_of_mem _ hx)) (pos + 1) hs.2, unitsOf_one (by simp; omega)]
    simp only [List.length_cons, List.map_cons]
    rw [show pos + 1 + l.length = pos + (l.length + 1) by omega]
    cases unitsFrom s (pos + (l.length + 1)) <;> simp
end Go.Proofs.YtmfbnmjmgpafmaaDoor
