/- Plain lists of bytes: what escaping the ends of a tag does. No program in sight. -/
namespace Go.Proofs.Ytfpfpdjnmfiffaa.Esc

/-- A byte, its capital letter made small. -/
def low (b : UInt8) : UInt8 := if 65 ≤ b.toNat ∧ b.toNat ≤ 90 then b + 32 else b
/-- l begins with t, capitals being small letters. -/
def starts : List UInt8 → List UInt8 → Bool
  | _, [] => true
  | [], _ :: _ => false
  | c :: r, t :: ts => (low c == t) && starts r ts
/-- '/style'. -/
def tag : List UInt8 := [47, 115, 116, 121, 108, 101]
/-- A reverse solidus behind each '<' that an end of the tag stands behind. -/
def esc : List UInt8 → List UInt8
  | [] => []
  | c :: r => if c == 60 && starts r tag then c :: 92 :: esc r else c :: esc r

theorem esc_yes {c : UInt8} {r : List UInt8} (h : (c == 60 && starts r tag) = true) : esc (c :: r) = c :: 92 :: esc r := by rw [esc, if_pos h]
theorem esc_no {c : UInt8} {r : List UInt8} (h : (c == 60 && starts r tag) = false) : esc (c :: r) = c :: esc r := by rw [esc, if_neg (by simp [h])]

/-- '</' stands at place j. -/
def at_ (l : List UInt8) (j : Nat) : Prop := l[j]? = some 60 ∧ l[j + 1]? = some 47

theorem low_slash {c : UInt8} (h : low c = 47) : c = 47 := by
  unfold low at h
  split at h
  · rename_i hc
    have := congrArg UInt8.toNat h
    rw [UInt8.toNat_add] at this
    have e : (32 : UInt8).toNat = 32 := rfl
    have e2 : (47 : UInt8).toNat = 47 := rfl
    omega
  · exact h
theorem starts_slash {r : List UInt8} (h : starts r tag = true) : ∃ r', r = 47 :: r' := by
  cases r with
  | nil => simp [starts, tag] at h
  | cons c r =>
    simp only [starts, tag, Bool.and_eq_true, beq_iff_eq] at h
    exact ⟨r, by rw [low_slash h.1]⟩

/-- Where no '</' stands within the first i places nothing is put in there. -/
theorem esc_skip : ∀ (i : Nat) (l : List UInt8), (∀ j, j < i → ¬ at_ l j) → i ≤ l.length → esc l = l.take i ++ esc (l.drop i)
  | 0, l, _, _ => by simp
  | i + 1, [], _, h => by simp at h
  | i + 1, c :: r, hn, hl => by
    have h0 := hn 0 (by omega)
    have hno : (c == 60 && starts r tag) = false := by
      rw [← Bool.not_eq_true]
      intro h
      simp only [Bool.and_eq_true, beq_iff_eq] at h
      obtain ⟨r', rfl⟩ := starts_slash h.2
      exact h0 ⟨by simp [h.1], by simp⟩
    rw [esc_no hno, esc_skip i r (fun j hj hat => hn (j + 1) (by omega) hat) (by simpa using hl)]
    simp
theorem esc_none (l : List UInt8) (h : ∀ j, ¬ at_ l j) : esc l = l := by
  have := esc_skip l.length l (fun j _ => h j) (Nat.le_refl _)
  simpa [esc] using this
/-- At a '</' the code's own step. -/
theorem esc_step (i : Nat) (l : List UInt8) (hn : ∀ j, j < i → ¬ at_ l j) (h : at_ l i) :
    esc l = l.take (i + 1) ++ ((if starts (l.drop (i + 1)) tag then [92] else []) ++ esc (l.drop (i + 1))) := by
  have hi : i < l.length := (List.getElem?_eq_some_iff.1 h.1).1
  have hv : l[i] = 60 := (List.getElem?_eq_some_iff.1 h.1).2
  rw [esc_skip i l hn (by omega), List.drop_eq_getElem_cons hi, hv]
  have ht : l.take (i + 1) = l.take i ++ [60] := by rw [List.take_succ_eq_append_getElem hi, hv]
  rw [ht]
  cases hs : starts (l.drop (i + 1)) tag with
  | true => rw [esc_yes (by simp [hs])]; simp
  | false => rw [esc_no (by simp [hs])]; simp
theorem esc_length (l : List UInt8) : (esc l).length ≤ 2 * l.length := by
  induction l with
  | nil => simp [esc]
  | cons c r ih =>
    unfold esc
    split <;> simp <;> omega
/-- Without what is put in it is the text again. -/
theorem esc_plain (l : List UInt8) (h : (92 : UInt8) ∉ l) : (esc l).filter (fun b => b != 92) = l := by
  induction l with
  | nil => rfl
  | cons c r ih =>
    have hc : ¬ c = 92 := fun e => h (by simp [e])
    have ih' := ih (fun e => h (by simp [e]))
    unfold esc
    split
    · simp [hc, ih']
    · simp [hc, ih']
theorem starts_esc : ∀ (ts l : List UInt8), (92 : UInt8) ∉ ts → starts (esc l) ts = true → starts l ts = true
  | [], l, _, _ => by cases l <;> rfl
  | t :: ts, [], _, h => by simp [esc, starts] at h
  | t :: ts, c :: r, hn, h => by
    have hn' : (92 : UInt8) ∉ ts := fun e => hn (by simp [e])
    cases hc : (c == 60 && starts r tag) with
    | true =>
      rw [esc_yes hc] at h
      simp only [starts, Bool.and_eq_true] at h
      cases ts with
      | nil => simp [starts, h.1]
      | cons t' ts' =>
        have h2 := h.2
        simp only [starts, Bool.and_eq_true, beq_iff_eq] at h2
        exact absurd (show (92 : UInt8) ∈ t' :: ts' by
          have : low 92 = 92 := rfl
          rw [this] at h2
          simp [h2.1]) hn'
    | false =>
      rw [esc_no hc] at h
      simp only [starts, Bool.and_eq_true] at h ⊢
      exact ⟨h.1, starts_esc ts r hn' h.2⟩
/-- No end of the tag is left. -/
theorem esc_free : ∀ (l : List UInt8) (i : Nat), starts ((esc l).drop i) (60 :: tag) = false
  | [], i => by simp [esc, starts]
  | c :: r, i => by
    have low60 : ∀ x : UInt8, low x = 60 → x = 60 := fun x h => by
      unfold low at h
      split at h
      · rename_i hc
        have := congrArg UInt8.toNat h
        rw [UInt8.toNat_add] at this
        have e : (32 : UInt8).toNat = 32 := rfl
        have e2 : (60 : UInt8).toNat = 60 := rfl
        omega
      · exact h
    cases hc : (c == 60 && starts r tag) with
    | true =>
      rw [esc_yes hc]
      match i with
      | 0 =>
        rw [← Bool.not_eq_true]
        intro h
        simp only [List.drop_zero, starts, tag, Bool.and_eq_true, beq_iff_eq] at h
        exact absurd h.2.1 (by decide)
      | 1 =>
        rw [← Bool.not_eq_true]
        intro h
        simp only [List.drop_succ_cons, List.drop_zero, starts, Bool.and_eq_true, beq_iff_eq] at h
        exact absurd h.1 (by decide)
      | k + 2 => simpa using esc_free r k
    | false =>
      rw [esc_no hc]
      match i with
      | 0 =>
        rw [← Bool.not_eq_true]
        intro h
        simp only [List.drop_zero, starts, Bool.and_eq_true, beq_iff_eq] at h
        have h2 := starts_esc tag r (by decide) h.2
        have h1 := low60 c h.1
        simp [h1, h2] at hc
      | k + 1 => simpa using esc_free r k
theorem starts_iff : ∀ (ts l : List UInt8), starts l ts = true ↔ (l.take ts.length).map low = ts
  | [], l => by cases l <;> simp [starts]
  | t :: ts, [] => by simp [starts]
  | t :: ts, c :: r => by
    simp only [starts, Bool.and_eq_true, beq_iff_eq, List.length_cons, List.take_succ_cons, List.map_cons, List.cons.injEq]
    rw [starts_iff ts r]
end Go.Proofs.Ytfpfpdjnmfiffaa.Esc
