/- impl.PackageName at a name of one or two words and what stands behind it. -/
import Derived.Test.YtfpfpdjnmfiffaaParse
namespace Go.Proofs.Ytfpfpdjnmfiffaa
open Go.RowKit
set_option linter.unusedVariables false

theorem idx_none (c : UInt8) : ∀ l : List UInt8, c ∉ l → Lib.indexByte l c = -1
  | [], _ => rfl
  | b :: l, h => by
    have h1 : ¬ b = c := fun e => h (by simp [e])
    have h2 : c ∉ l := fun e => h (by simp [e])
    have ih := idx_none c l h2
    simp [Lib.indexByte, h1, ih]
theorem idx_at (c : UInt8) : ∀ l r : List UInt8, c ∉ l → Lib.indexByte (l ++ c :: r) c = l.length
  | [], r, _ => by simp [Lib.indexByte]
  | b :: l, r, h => by
    have h1 : ¬ b = c := fun e => h (by simp [e])
    have h2 : c ∉ l := fun e => h (by simp [e])
    have ih := idx_at c l r h2
    have h3 : ¬ ((l.length : Int) = -1) := by omega
    simp [Lib.indexByte, h1, ih, h3]
theorem drop_past (l r : List UInt8) (c d : UInt8) (n : Nat) (h : l.length = n) : (d :: (l ++ c :: r)).drop (n + 1 + 1) = r := by
  subst h
  simp
theorem idx_of (s : ByteArray) (i : Int) (h : Lib.indexByte s.data.toList 47 = i) : Idx s i := fun w => by
  refine (Try.strings_IndexByte s 47 w).mono ?_
  rintro e w' ⟨rfl, rfl⟩
  refine ⟨?_, rfl⟩
  rw [← h]; rfl
theorem pre_of (s p : ByteArray) (b : Bool) (h : Lib.hasPrefix s.data.toList p.data.toList = b) : Pre s p b := fun w => by
  refine (Try.strings_HasPrefix s p w).mono ?_
  rintro e w' ⟨rfl, rfl⟩
  exact ⟨by rw [h], rfl⟩
/-- A list of letters. -/
def Letters (l : List UInt8) : Prop := ∀ x ∈ l, 97 ≤ x.toNat ∧ x.toNat ≤ 122
theorem letters_of {s : ByteArray} (h : wordB s = true) : Letters s.data.toList := by
  intro x hx
  obtain ⟨i, hi, rfl⟩ := List.mem_iff_getElem.1 hx
  exact (wordB_out h).1 i (by simpa using hi)
theorem Letters.not_mem {l : List UInt8} (h : Letters l) : (47 : UInt8) ∉ l := fun hm => by
  have := h _ hm
  have e : (47 : UInt8).toNat = 47 := rfl
  omega
theorem noAny_of (s : ByteArray) (hs : s.size ≤ 1000) (h : ∀ x ∈ s.data.toList, x.toNat < 128 ∧ x.toNat ≠ 92 ∧ x.toNat ≠ 37) : NoAny s := fun w =>
  containsAny_none s w (by omega) fun i hi => h _ (by
    have : s[i]'hi = s.data.toList[i]'(by simpa using hi) := rfl
    rw [this]; exact List.getElem_mem _)
theorem data_append (a b : ByteArray) : (a ++ b).data.toList = a.data.toList ++ b.data.toList := by simp
theorem ext_list {a b : ByteArray} (h : a.data.toList = b.data.toList) : a = b := ByteArray.ext (Array.toList_inj.1 h)
theorem len_list (a : ByteArray) : a.data.toList.length = a.size := by simp

/-- impl.PackageName hands on what esmParsePackageName tells. -/
theorem door_of (s a b : ByteArray) (w : World) (h : ∀ w : World, Calls Try.prog 34 #[.string s] w fun e w' => e = .returned (.tuple #[.string a, .string b, .bool true]) ∧ Below w.heap.size w w') :
    Calls Try.prog 29 #[.string s] w fun e w' => e = .returned (.tuple #[.string a, .string b, .bool true]) ∧ Below w.heap.size w w' := by
  have H := Lib.hid h
  clear h
  go_enter Try.func29, Try.ntmps29
  go_wp2_with (go_at_call 34; refine (H.out _).mono ?_; rintro e w1 ⟨rfl, hb⟩)
  go_ret3
  exact ⟨rfl, hb⟩
theorem name_of (s a b : ByteArray) (w : World) (h : ∀ w : World, Calls Try.prog 34 #[.string s] w fun e w' => e = .returned (.tuple #[.string a, .string b, .bool true]) ∧ Below w.heap.size w w') :
    Calls Try.prog 13 #[.string s] w fun e w' => e = .returned (.tuple #[.string a, .string b, .bool true]) ∧ Below w.heap.size w w' := by
  have H := Lib.hid (fun w : World => door_of s a b w h)
  clear h
  go_enter Try.func13, Try.ntmps13
  go_wp2_with (go_at_call 29; refine (H.out _).mono ?_; rintro e w1 ⟨rfl, hb⟩)
  go_ret3
  exact ⟨rfl, hb⟩

/-- What stands behind a name: nothing, or a solidus and more. -/
def Rest (R : ByteArray) : Prop := R.data.toList = [] ∨ ∃ r, R.data.toList = 47 :: r
/-- What impl.PackageName tells. -/
def Tells (S W D : ByteArray) : Prop := ∀ w : World, Calls Try.prog 13 #[.string S] w fun e w' => e = .returned (.tuple #[.string W, .string D, .bool true]) ∧ Below w.heap.size w w'

theorem tells_name (W R : ByteArray) (hw : wordB W = true) (hR : Rest R) (hRs : R.size ≤ 200) : Tells (W ++ R) W (⟨#[46]⟩ ++ R) := by
  intro w
  obtain ⟨hl, h1, h2⟩ := wordB_out hw
  have hL := letters_of hw
  have hlen := len_list W
  refine name_of _ _ _ w fun w => ?_
  have hh : ∀ (r : List UInt8) (c : UInt8), (c.toNat < 97 ∨ 122 < c.toNat) → Lib.hasPrefix (W.data.toList ++ r) [c] = false := fun r c hc => by
    cases hd : W.data.toList with
    | nil => rw [hd] at hlen; simp at hlen; omega
    | cons x t =>
      have := hL x (by rw [hd]; simp)
      simp only [Lib.hasPrefix, List.cons_append, List.isPrefixOf, Bool.and_true]
      rw [beq_eq_false_iff_ne]
      intro e; subst e; omega
  have hn : NoAny W := noAny_of W (by omega) fun x hx => by have := hL x hx; omega
  have hdot : Pre W ⟨#[46]⟩ false := pre_of _ _ _ (by have := hh [] 46 (by decide); simpa using this)
  rcases hR with hR | ⟨r, hR⟩
  · have e : R = ⟨#[]⟩ := ext_list hR
    subst e
    have e1 : W ++ ⟨#[]⟩ = W := ext_list (by rw [data_append]; simp)
    rw [e1]
    refine (parse_a_end W w (by omega) (by omega) (idx_of _ _ (idx_none _ _ hL.not_mem)) (pre_of _ _ _ (by have := hh [] 64 (by decide); simpa using this)) hdot hn).mono ?_
    rintro e w' ⟨rfl, hb⟩
    exact ⟨rfl, hb⟩
  · have hRz : 0 < R.size := by rw [← len_list, hR]; simp
    have hz : (W ++ R).size = W.size + R.size := ByteArray.size_append
    refine parse_a_more (W ++ R) W R W.size w (by omega) (by omega) (by omega) ?_ ?_ rfl (idx_of _ _ ?_) (pre_of _ _ _ ?_) hdot hn
    · exact ext_list (by rw [Lib.extract_data, data_append]; simp)
    · exact ext_list (by rw [Lib.extract_to_end, data_append]; simp)
    · rw [data_append, hR, idx_at _ _ _ hL.not_mem, hlen]
    · rw [data_append]; exact hh _ _ (by decide)

theorem tells_scoped (C N W R : ByteArray) (hC : wordB C = true) (hN : wordB N = true) (hW : ⟨#[64]⟩ ++ C ++ ⟨#[47]⟩ ++ N = W) (hR : Rest R) (hRs : R.size ≤ 200) : Tells (W ++ R) W (⟨#[46]⟩ ++ R) := by
  intro w
  obtain ⟨_, hc1, hc2⟩ := wordB_out hC
  obtain ⟨_, hn1, hn2⟩ := wordB_out hN
  have hLC := letters_of hC
  have hLN := letters_of hN
  have hlC := len_list C
  have hlN := len_list N
  have hWl : W.data.toList = 64 :: (C.data.toList ++ 47 :: N.data.toList) := by rw [← hW]; simp
  have hWz : W.size = 1 + C.size + 1 + N.size := by rw [← len_list W, hWl]; simp; omega
  clear hW
  refine name_of _ _ _ w fun w => ?_
  have hn : NoAny W := noAny_of W (by omega) fun x hx => by
    rw [hWl] at hx
    simp only [List.mem_cons, List.mem_append] at hx
    rcases hx with rfl | hx | rfl | hx
    · decide
    · have := hLC x hx; omega
    · decide
    · have := hLN x hx; omega
  have hdot : Pre W ⟨#[46]⟩ false := pre_of _ _ _ (by rw [hWl]; rfl)
  have h64 : (47 : UInt8) ∉ (64 : UInt8) :: C.data.toList := by
    intro hm
    rcases List.mem_cons.1 hm with h | h
    · cases h
    · exact hLC.not_mem h
  rcases hR with hR | ⟨r, hR⟩
  · have e : R = ⟨#[]⟩ := ext_list hR
    subst e
    have e1 : W ++ ⟨#[]⟩ = W := ext_list (by rw [data_append]; simp)
    rw [e1]
    have hT : W.extract (C.size + 1 + 1) W.size = N := ext_list (by rw [Lib.extract_to_end, hWl]; exact drop_past _ _ _ _ _ hlC)
    refine (parse_b_end W N (C.size + 1) w (by omega) (by omega) hT (by omega) ?_ (idx_of _ _ ?_) (idx_of _ _ (idx_none _ _ hLN.not_mem)) (pre_of _ _ _ (by rw [hWl]; rfl)) hdot hn).mono ?_
    · have : C.size + 1 + 1 + N.size = W.size := by omega
      rw [this]; exact ext_list (by rw [Lib.extract_data]; exact List.take_of_length_le (by simp))
    · have := idx_at 47 (64 :: C.data.toList) N.data.toList h64
      rw [hWl]
      simp only [List.cons_append] at this
      rw [this, List.length_cons, hlC]
    · rintro e w' ⟨rfl, hb⟩
      exact ⟨rfl, hb⟩
  · have hRz : 0 < R.size := by rw [← len_list, hR]; simp
    have hz : (W ++ R).size = W.size + R.size := ByteArray.size_append
    have hT : (W ++ R).extract (C.size + 1 + 1) (W ++ R).size = N ++ R := ext_list (by rw [Lib.extract_to_end, data_append, data_append, hWl, List.cons_append, List.append_assoc, List.cons_append]; exact drop_past _ _ _ _ _ hlC)
    refine parse_b_more (W ++ R) (N ++ R) W R (C.size + 1) N.size w (by omega) (by omega) (by omega) hT ?_ ?_ (by omega) (idx_of _ _ ?_) (idx_of _ _ ?_) (pre_of _ _ _ (by rw [data_append, hWl]; rfl)) hdot hn
    · have : C.size + 1 + 1 + N.size = W.size := by omega
      rw [this]; exact ext_list (by rw [Lib.extract_data, data_append]; simp)
    · have : C.size + 1 + 1 + N.size = W.size := by omega
      rw [this]; exact ext_list (by rw [Lib.extract_to_end, data_append]; simp)
    · have := idx_at 47 (64 :: C.data.toList) (N.data.toList ++ R.data.toList) h64
      rw [data_append, hWl]
      simp only [List.cons_append, List.append_assoc] at this ⊢
      rw [this, List.length_cons, hlC]
    · rw [data_append, hR, idx_at _ _ _ hLN.not_mem, hlN]
end Go.Proofs.Ytfpfpdjnmfiffaa
