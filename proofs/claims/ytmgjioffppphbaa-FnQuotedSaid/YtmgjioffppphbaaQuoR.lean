/- Plain: the reading of a quoted text, place by place. -/
import Derived.Test.YtmgjioffppphbaaQuoP
namespace Go.Proofs.Ytmgjioffppphbaa
set_option linter.unusedVariables false
set_option linter.unusedSimpArgs false
theorem part_zero (s : ByteArray) (p : Nat) : part s p 0 = [] := by simp [part]
theorem part_len {s : ByteArray} {p n : Nat} (h : p + n ≤ s.size) : (part s p n).length = n := by
  rw [part, List.length_take, List.length_drop, nums_len]; omega
theorem part_cons {s : ByteArray} {p n : Nat} (h : p + (n + 1) ≤ s.size) : ∃ b, (nums s)[p]? = some b ∧ part s p (n + 1) = b :: part s (p + 1) n := by
  have hp : p < (nums s).length := by rw [nums_len]; omega
  refine ⟨(nums s)[p], List.getElem?_eq_getElem hp, ?_⟩
  unfold part
  rw [List.drop_eq_getElem_cons hp, List.take_succ_cons]
theorem take_part {s : ByteArray} {p n : Nat} : (nums s).take (p + n) = (nums s).take p ++ part s p n := by
  rw [List.take_add]; rfl
def Plain (b : Nat) : Prop := 32 ≤ b ∧ b ≠ 34 ∧ b ≠ 92
theorem canP_plain {s : ByteArray} {a : Bool} {p r n : Nat} (h : Sign s p r n) (hc : canP r a = true) : ∀ b ∈ part s p n, Plain b := by
  intro b hb
  rcases h.kind with ⟨_, h1, h2⟩ | ⟨_, h1, h2⟩
  · rw [h2] at hb
    simp at hb
    subst hb
    unfold canP at hc
    split at hc
    · simp at hc
      exact ⟨hc.1.1, hc.2, hc.1.2⟩
    · exact ⟨by omega, by omega, by omega⟩
  · have := h2 b hb
    exact ⟨by omega, by omega, by omega⟩
theorem esc_len (r : Nat) : 2 ≤ (esc r).length ∧ (esc r).length ≤ 12 := by
  unfold esc u4
  repeat' split
  all_goals simp
theorem escAt_len {s : ByteArray} {a : Bool} {p r n : Nat} (h : Sign s p r n) : 1 ≤ (escAt s a p).length ∧ (escAt s a p).length ≤ 12 * n := by
  unfold escAt
  have h1 := h.wide
  have h2 := esc_len r
  rw [h.dec]
  simp only
  split
  · rw [part_len h.inn]; omega
  · omega
/-- Where the reading stands: the place in the quoted text, in the text, and the next sign's place. -/
structure Rd (s : ByteArray) (a : Bool) (Q : ByteArray) (i p e : Nat) : Prop where
  left : (nums Q).drop i = part s p (e - p) ++ escFrom s a e
  le : p ≤ e
  inn : e ≤ s.size
  plain : ∀ b ∈ part s p (e - p), Plain b
  good : Good s e
theorem rd_start {s : ByteArray} {a : Bool} {Q : ByteArray} (hq : nums Q = escFrom s a 0) (hg : Good s 0) : Rd s a Q 0 0 0 :=
  ⟨by simp [hq, part_zero], Nat.le_refl _, Nat.zero_le _, fun b hb => by simp [part_zero] at hb, hg⟩
theorem rd_at {s : ByteArray} {a : Bool} {Q : ByteArray} {i p e : Nat} (h : Rd s a Q i p e) : Rd s a Q i p e := h
theorem rd_cases {s : ByteArray} {a : Bool} {Q : ByteArray} {i p e : Nat} (h : Rd s a Q i p e) (hi : i < Q.size) :
    (∃ b e', (nums Q)[i]? = some b ∧ Plain b ∧ (nums s)[p]? = some b ∧ p < s.size ∧ Rd s a Q (i + 1) (p + 1) e') ∨
    (∃ r n, Sign s p r n ∧ canP r a = false ∧ (nums Q).drop i = esc r ++ escFrom s a (p + n) ∧ Good s (p + n)) := by
  have hA : ∀ e2, p < e2 → e2 ≤ s.size → (nums Q).drop i = part s p (e2 - p) ++ escFrom s a e2 → (∀ b ∈ part s p (e2 - p), Plain b) → Good s e2 →
      ∃ b e', (nums Q)[i]? = some b ∧ Plain b ∧ (nums s)[p]? = some b ∧ p < s.size ∧ Rd s a Q (i + 1) (p + 1) e' := fun e2 h1 h2 h3 h4 h5 => by
    obtain ⟨b, hb, hpc⟩ := part_cons (s := s) (p := p) (n := e2 - (p + 1)) (by omega)
    rw [show e2 - (p + 1) + 1 = e2 - p by omega] at hpc
    rw [hpc] at h3 h4
    have hb0 : (nums Q)[i]? = some b := by
      have := congrArg (fun l => l[0]?) h3
      simpa using this
    refine ⟨b, e2, hb0, h4 b (List.mem_cons_self ..), hb, by omega, ?_, by omega, h2, fun x hx => h4 x (List.mem_cons_of_mem _ hx), h5⟩
    rw [← List.drop_drop, h3]
    rfl
  by_cases hpe : p < e
  · exact .inl (hA e hpe h.inn h.left h.plain h.good)
  · obtain rfl : p = e := Nat.le_antisymm h.le (by omega)
    have hl := h.left
    rw [Nat.sub_self, part_zero, List.nil_append] at hl
    have hp : p < s.size := by
      by_cases hp : p < s.size
      · exact hp
      · rw [escFrom_end hp] at hl
        have := congrArg List.length hl
        simp [nums_len] at this
        omega
    obtain ⟨hs, hg⟩ := good_sign h.good hp
    rw [escFrom_step hp, escAt] at hl
    cases hc : canP (Utf8.decode s p).1 a with
    | true =>
      rw [hc, if_pos rfl] at hl
      left
      have hw := hs.wide
      refine hA (p + (Utf8.decode s p).2) (by omega) hs.inn ?_ ?_ hg
      · rw [Nat.add_sub_cancel_left]; exact hl
      · rw [Nat.add_sub_cancel_left]; exact canP_plain hs hc
    | false =>
      rw [hc, if_neg (by simp)] at hl
      exact .inr ⟨_, _, hs, hc, hl, hg⟩
theorem rd_end {s : ByteArray} {a : Bool} {Q : ByteArray} {i p e : Nat} (h : Rd s a Q i p e) (hi : ¬ i < Q.size) : p = s.size := by
  have h0 : (nums Q).drop i = [] := List.drop_eq_nil_of_le (by rw [nums_len]; omega)
  have hl := h.left
  rw [h0] at hl
  have h1 := congrArg List.length hl
  have hle := h.le
  have hin := h.inn
  rw [List.length_append, part_len (by omega)] at h1
  simp at h1
  by_cases he : e < s.size
  · have := escAt_len (a := a) (good_sign h.good he).1
    rw [escFrom_step he] at h1
    simp at h1
    omega
  · omega
theorem rd_after {s : ByteArray} {a : Bool} {Q : ByteArray} {i p r n k : Nat} (hs : Sign s p r n) (hl : (nums Q).drop i = esc r ++ escFrom s a (p + n)) (hg : Good s (p + n)) (hk : (esc r).length = k) : Rd s a Q (i + k) (p + n) (p + n) := by
  refine ⟨?_, Nat.le_refl _, hs.inn, fun b hb => by simp [part_zero] at hb, hg⟩
  rw [Nat.sub_self, part_zero, List.nil_append, ← List.drop_drop, hl, ← hk]
  simp
/-- What was read so far. -/
def Out (s X : ByteArray) (p : Nat) : Prop := nums X = (nums s).take p
theorem Out.plain {s X Q : ByteArray} {i p b : Nat} (h : Out s X p) (hq : (nums Q)[i]? = some b) (hs : (nums s)[p]? = some b) (hi : i < Q.size) : Out s (X ++ Q.extract i (i + 1)) (p + 1) := by
  unfold Out at *
  rw [append_nums, extract_nums, h, List.take_add_one, hs, Nat.add_sub_cancel_left]
  congr 1
  have := List.take_add_one (l := (nums Q).drop i) (i := 0)
  simpa [hq] using this
theorem Out.sign {s X Y : ByteArray} {p r n : Nat} (h : Out s X p) (hs : Sign s p r n) (hY : nums Y = part s p n) : Out s (X ++ Y) (p + n) := by
  unfold Out at *
  rw [append_nums, h, hY, take_part]
theorem Out.all {s X : ByteArray} (h : Out s X s.size) : X = s := by
  unfold Out at h
  rw [List.take_of_length_le (by rw [nums_len]; exact Nat.le_refl _)] at h
  exact nums_inj h
theorem u4_ascii (r : Nat) : ∀ b ∈ u4 r, b ≤ 126 := by
  have hh : ∀ d, d < 16 → hx d ≤ 126 := fun d hd => by unfold hx; split <;> omega
  intro b hb
  simp only [u4, List.mem_cons, List.not_mem_nil, or_false] at hb
  rcases hb with rfl | rfl | rfl | rfl | rfl | rfl
  all_goals first | omega | exact hh _ (Nat.mod_lt _ (by omega))
theorem esc_ascii (r : Nat) : ∀ b ∈ esc r, b ≤ 126 := by
  intro b hb
  unfold esc at hb
  repeat' split at hb
  all_goals first
    | exact u4_ascii _ b hb
    | (rcases List.mem_append.1 hb with hb | hb <;> exact u4_ascii _ b hb)
    | (simp at hb; omega)
theorem escFrom_ascii {s : ByteArray} (k : Nat) : ∀ pos, s.size - pos ≤ k → Good s pos → ∀ b ∈ escFrom s true pos, b ≤ 126 := by
  induction k with
  | zero => intro pos hk hg b hb; rw [escFrom_end (by omega)] at hb; simp at hb
  | succ k ih =>
    intro pos hk hg b hb
    by_cases hp : pos < s.size
    · obtain ⟨hs, hg2⟩ := good_sign hg hp
      have hw := hs.wide
      rw [escFrom_step hp] at hb
      rcases List.mem_append.1 hb with hb | hb
      · unfold escAt at hb
        split at hb
        · rename_i hc
          rcases hs.kind with ⟨_, h1, h2⟩ | ⟨_, h1, _⟩
          · rw [h2] at hb
            simp at hb
            unfold canP at hc
            split at hc
            · omega
            · simp at hc
          · unfold canP at hc
            split at hc
            · omega
            · simp at hc
        · exact esc_ascii _ b hb
      · exact ih _ (by omega) hg2 b hb
    · rw [escFrom_end hp] at hb; simp at hb
theorem escFrom_len {s : ByteArray} {a : Bool} (k : Nat) : ∀ pos, s.size - pos ≤ k → pos ≤ s.size → Good s pos → (escFrom s a pos).length ≤ 12 * (s.size - pos) := by
  induction k with
  | zero => intro pos hk hp0 hg; rw [escFrom_end (by omega)]; simp
  | succ k ih =>
    intro pos hk hp0 hg
    by_cases hp : pos < s.size
    · obtain ⟨hs, hg2⟩ := good_sign hg hp
      have hw := hs.wide
      have hi := hs.inn
      have h1 := escAt_len (a := a) hs
      have h2 := ih _ (by omega) hi hg2
      rw [escFrom_step hp, List.length_append]
      omega
    · rw [escFrom_end hp]; simp
/-- What has been written, and what is still to come. -/
def Wrote (s : ByteArray) (a : Bool) (acc : List Nat) (pos : Nat) : Prop := acc ++ escFrom s a pos = escFrom s a 0
theorem wrote_start (s : ByteArray) (a : Bool) : Wrote s a [] 0 := rfl
theorem Wrote.esc {s : ByteArray} {a : Bool} {acc : List Nat} {pos r n : Nat} (h : Wrote s a acc pos) (hp : pos < s.size) (hs : Sign s pos r n) (hc : canP r a = false) : Wrote s a (acc ++ esc r) (pos + n) := by
  unfold Wrote at *
  rw [escFrom_step hp, escAt, hs.dec] at h
  simp only at h
  rw [hc, if_neg (by simp)] at h
  rw [List.append_assoc]
  exact h
/-- A run of signs that are printed as they stand. -/
def Run (s : ByteArray) (a : Bool) (pos e : Nat) : Prop := pos ≤ e ∧ e ≤ s.size ∧ escFrom s a pos = part s pos (e - pos) ++ escFrom s a e
theorem run_start {s : ByteArray} {a : Bool} {pos r n : Nat} (hp : pos < s.size) (hs : Sign s pos r n) (hc : canP r a = true) : Run s a pos (pos + n) := by
  refine ⟨by omega, hs.inn, ?_⟩
  rw [escFrom_step hp, escAt, hs.dec]
  simp only
  rw [hc, if_pos rfl, Nat.add_sub_cancel_left]
theorem Run.more {s : ByteArray} {a : Bool} {pos e r n : Nat} (h : Run s a pos e) (hp : e < s.size) (hs : Sign s e r n) (hc : canP r a = true) : Run s a pos (e + n) := by
  obtain ⟨h1, h2, h3⟩ := h
  obtain ⟨_, h5, h6⟩ := run_start hp hs hc
  refine ⟨by omega, h5, ?_⟩
  rw [h3, h6, ← List.append_assoc]
  congr 1
  rw [Nat.add_sub_cancel_left, show e + n - pos = (e - pos) + n by omega]
  unfold part
  rw [List.take_add, List.drop_drop, show pos + (e - pos) = e by omega]
theorem Wrote.run {s : ByteArray} {a : Bool} {acc : List Nat} {pos e : Nat} (h : Wrote s a acc pos) (hr : Run s a pos e) : Wrote s a (acc ++ part s pos (e - pos)) e := by
  unfold Wrote at *
  rw [hr.2.2] at h
  rw [List.append_assoc]
  exact h
theorem Wrote.all {s : ByteArray} {a : Bool} {acc : List Nat} {pos : Nat} (h : Wrote s a acc pos) (hp : ¬ pos < s.size) : acc = escFrom s a 0 := by
  unfold Wrote at h
  rw [escFrom_end hp] at h
  simpa using h
theorem Wrote.len {s : ByteArray} {a : Bool} {acc : List Nat} {pos : Nat} (h : Wrote s a acc pos) (hg : Good s 0) : acc.length ≤ 12 * s.size := by
  have h1 := congrArg List.length h
  have h2 := escFrom_len (a := a) s.size 0 (by omega) (Nat.zero_le _) hg
  rw [List.length_append] at h1
  omega
end Go.Proofs.Ytmgjioffppphbaa
