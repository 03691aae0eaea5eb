/- Plain: the place behind a text, sign by sign. -/
import Derived.Test.YtnmielbjdadggaaDoorUnitsP
import Derived.Laws.IdiomStrings
import Derived.Lib.DecodeN
namespace Go.Proofs.YtnmielbjdadggaaDoor
set_option linter.unusedVariables false
def runesL (s : ByteArray) (pos : Nat) : List Nat :=
  if h : pos < s.size then (Utf8.decode s pos).1 :: runesL s (pos + (Utf8.decode s pos).2) else []
termination_by s.size - pos
decreasing_by have := decode_wide s pos; omega
theorem runes_end {s : ByteArray} {pos : Nat} (h : ¬ pos < s.size) : runesL s pos = [] := by rw [runesL, dif_neg h]
theorem runes_step {s : ByteArray} {pos : Nat} (h : pos < s.size) : runesL s pos = (Utf8.decode s pos).1 :: runesL s (pos + (Utf8.decode s pos).2) := by rw [runesL, dif_pos h]
def lineEnd (r : Nat) : Prop := r = 13 ∨ r = 10 ∨ r = 8232 ∨ r = 8233
instance (r : Nat) : Decidable (lineEnd r) := by unfold lineEnd; infer_instance
def placeL : List Nat → Nat → Nat → Nat × Nat
  | [], l, c => (l, c)
  | r :: rest, l, c => if r = 13 ∧ rest.head? = some 10 then placeL rest l (c + 1) else if lineEnd r then placeL rest (l + 1) 0 else if 65535 < r then placeL rest l (c + 2) else placeL rest l (c + 1)
/-- Where the text s leads, from (l0, c0). -/
def place (s : ByteArray) (l c : Nat) : Nat × Nat := placeL (runesL s 0) l c
theorem place_crlf {rest : List Nat} {l c : Nat} (h : rest.head? = some 10) : placeL (13 :: rest) l c = placeL rest l (c + 1) := by rw [placeL, if_pos ⟨rfl, h⟩]
theorem place_cr {rest : List Nat} {l c : Nat} (h : ¬ rest.head? = some 10) : placeL (13 :: rest) l c = placeL rest (l + 1) 0 := by rw [placeL, if_neg (fun x => h x.2), if_pos (.inl rfl)]
theorem place_line {r : Nat} {rest : List Nat} {l c : Nat} (h : ¬ r = 13) (h2 : lineEnd r) : placeL (r :: rest) l c = placeL rest (l + 1) 0 := by rw [placeL, if_neg (fun x => h x.1), if_pos h2]
theorem place_two {r : Nat} {rest : List Nat} {l c : Nat} (h : 65535 < r) : placeL (r :: rest) l c = placeL rest l (c + 2) := by
  rw [placeL, if_neg (by omega), if_neg (by unfold lineEnd; omega), if_pos h]
theorem place_one {r : Nat} {rest : List Nat} {l c : Nat} (h : ¬ 65535 < r) (h2 : ¬ lineEnd r) : placeL (r :: rest) l c = placeL rest l (c + 1) := by
  rw [placeL, if_neg (fun x => h2 (.inl x.1)), if_neg h2, if_neg h]
/-- A byte of 128 or more begins no sign below 128. -/
theorem decode_hi (s : ByteArray) (pos : Nat) (h : 128 ≤ (s.get! pos).toNat) : 128 ≤ (Utf8.decode s pos).1 := by
  have hb : ∀ k, (s.get! (pos + k)).toNat < 256 := fun k => (s.get! (pos + k)).toNat_lt
  have h0 := hb 0; have h1 := hb 1; have h2 := hb 2; have h3 := hb 3
  simp only [Utf8.decode]
  repeat' split
  all_goals simp_all [Utf8.runeError, Utf8.valid]
  all_goals omega
theorem head_nl (s : ByteArray) (pos : Nat) : (runesL s pos).head? = some 10 ↔ pos < s.size ∧ (s.get! pos).toNat = 10 := by
  by_cases h : pos < s.size
  · rw [runes_step h]
    simp only [List.head?_cons, Option.some.injEq, h, true_and]
    by_cases h2 : (s.get! pos).toNat < 128
    · have hg : s.get! pos = s[pos]'h := by
        show s.data[pos]! = _
        rw [getElem!_pos s.data pos h]; rfl
      rw [hg] at h2 ⊢
      rw [decode_ascii s pos h h2]
    · have := decode_hi s pos (by omega)
      omega
  · rw [runes_end h]; simp; omega
theorem runesFrom_eq (s : ByteArray) : ∀ (bound i : Nat) (acc : Array Value), s.size - i ≤ bound → Conv.runesFrom s bound i acc = acc ++ ((runesL s i).map fun r : Nat => Value.int .i32 (r : Int)).toArray
  | 0, i, acc, h => by
    rw [runes_end (by omega)]; simp [Conv.runesFrom]
  | bound + 1, i, acc, h => by
    unfold Conv.runesFrom
    split
    · rename_i hlt
      have := decode_wide s i
      show Conv.runesFrom s bound (i + (Utf8.decode s i).2) (acc.push (.int .i32 (Int.ofNat (Utf8.decode s i).1))) = _
      rw [runesFrom_eq s bound _ _ (by omega), runes_step hlt]
      simp
    · rename_i hlt
      rw [runes_end hlt]; simp
theorem runes_len (s : ByteArray) (k : Nat) : ∀ pos, s.size - pos ≤ k → (runesL s pos).length ≤ s.size - pos := by
  induction k with
  | zero => intro pos h; rw [runes_end (by omega)]; simp
  | succ k ih =>
    intro pos h
    by_cases hlt : pos < s.size
    · have := decode_wide s pos
      have := decode_in s pos hlt
      have := ih (pos + (Utf8.decode s pos).2) (by omega)
      rw [runes_step hlt]
      simp only [List.length_cons]
      omega
    · rw [runes_end hlt]; simp
theorem runes_top (s : ByteArray) (k : Nat) : ∀ pos, s.size - pos ≤ k → ∀ r ∈ runesL s pos, r ≤ 1114111 := by
  induction k with
  | zero => intro pos h; rw [runes_end (by omega)]; simp
  | succ k ih =>
    intro pos h
    by_cases hlt : pos < s.size
    · have := decode_wide s pos
      have := ih (pos + (Utf8.decode s pos).2) (by omega)
      rw [runes_step hlt]
      intro r hr
      rcases List.mem_cons.1 hr with rfl | hr
      · exact decode_top s pos
      · exact this r hr
    · rw [runes_end hlt]; simp
end Go.Proofs.YtnmielbjdadggaaDoor
