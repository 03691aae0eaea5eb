/- What helpers.EscapeClosingTag tells at '/style': the text with a reverse solidus ahead of each end of the tag. -/
import Derived.Test.YtfpfpdjnmfiffaaTag
import Derived.Test.YtfpfpdjnmfiffaaBuilder
import Derived.Test.YtfpfpdjnmfiffaaShelf
namespace Go.Proofs.Ytfpfpdjnmfiffaa
open Go.RowKit
set_option linter.unusedVariables false

/-- The builder in block B holds the bytes acc. -/
def Bld (B : Nat) (acc : List UInt8) (w : World) : Prop := Lib.IsBuilderF 87 5 B B (Lib.byteCells acc) w
theorem Bld.lt {B : Nat} {acc : List UInt8} {w : World} (h : Bld B acc w) : B < w.heap.size := by
  rcases h with h | h <;> exact h.lt
theorem Bld.fresh (w : World) : Bld w.heap.size [] (w.alloc (.cells #[.pointer none, .slice none 0 0] 87)) := Lib.IsBuilderF.of (Lib.fresh_isBuilder 87 5 w)
theorem Bld.drewN {B : Nat} {acc : List UInt8} {w : World} (h : Bld B acc w) (n : Nat) : Bld B acc (w.drewN n) := h
theorem bld_string {B : Nat} {acc : List UInt8} (s : ByteArray) {w : World} (h : Bld B acc w) (hl : acc.length ≤ 1000000) (hs : s.size ≤ 1000000) :
    Calls Try.prog 36 #[.pointer (some ⟨B, 0, none⟩), .string s] w fun e w' => e = .returned (.tuple #[.int .i64 s.size, .nilIface]) ∧ Bld B (acc ++ s.data.toList) w' ∧ Below B w w' ∧ Lib.OthersKept 5 (some B) w w' := by
  refine (writeString_any B B (Lib.byteCells acc) s w h (by rw [Lib.byteCells_length]; omega) (Nat.le_of_lt h.lt)).mono ?_
  rintro e w' ⟨rfl, h1, h2, h3⟩
  exact ⟨rfl, by unfold Bld; rw [Lib.byteCells_append]; exact .inr h1, h2, h3⟩
theorem bld_byte {B : Nat} {acc : List UInt8} (c : UInt8) (x : Int) (hx : x = (c.toNat : Int)) {w : World} (h : Bld B acc w) (hl : acc.length ≤ 1000000) :
    Calls Try.prog 38 #[.pointer (some ⟨B, 0, none⟩), .int .u8 x] w fun e w' => e = .returned .nilIface ∧ Bld B (acc ++ [c]) w' ∧ Below B w w' ∧ Lib.OthersKept 5 (some B) w w' := by
  subst hx
  refine (writeByte_any B B (Lib.byteCells acc) _ w h (by rw [Lib.byteCells_length]; omega) (Nat.le_of_lt h.lt)).mono ?_
  rintro e w' ⟨rfl, h1, h2, h3⟩
  exact ⟨rfl, by unfold Bld; rw [Lib.byteCells_append]; exact .inr h1, h2, h3⟩
theorem bld_text {B : Nat} {acc : List UInt8} {w : World} (h : Bld B acc w) :
    Calls Try.prog 39 #[.pointer (some ⟨B, 0, none⟩)] w fun e w' => e = .returned (.string ⟨acc.toArray⟩) ∧ Bld B acc w' ∧ Below B w w' ∧ Lib.OthersKept 5 (some B) w w' :=
  Try.Builder_String_any_k B B acc w h (Nat.le_of_lt h.lt)

theorem ret_list {a b : List UInt8} (h : a = b) : Ending.returned (.string ⟨a.toArray⟩) = .returned (.string ⟨b.toArray⟩) := by rw [h]
def escS (s : ByteArray) : ByteArray := ⟨(Esc.esc s.data.toList).toArray⟩
theorem escS_same {s : ByteArray} (h : ∀ j, ¬ Esc.at_ s.data.toList j) : escS s = s := by
  unfold escS; rw [Esc.esc_none _ h]
def tagS : ByteArray := ⟨#[47, 115, 116, 121, 108, 101]⟩
theorem tagS_plain : ∀ i (hi : i < (⟨#[47, 115, 116, 121, 108, 101]⟩ : ByteArray).size), ¬ (65 ≤ ((⟨#[47, 115, 116, 121, 108, 101]⟩ : ByteArray)[i]'hi).toNat ∧ ((⟨#[47, 115, 116, 121, 108, 101]⟩ : ByteArray)[i]'hi).toNat ≤ 90) := by
  intro i hi
  have hi' : i < 6 := hi
  match i, hi' with
  | 0, _ => exact (by decide : ¬ (65 ≤ (47 : UInt8).toNat ∧ (47 : UInt8).toNat ≤ 90))
  | 1, _ => exact (by decide : ¬ (65 ≤ (115 : UInt8).toNat ∧ (115 : UInt8).toNat ≤ 90))
  | 2, _ => exact (by decide : ¬ (65 ≤ (116 : UInt8).toNat ∧ (116 : UInt8).toNat ≤ 90))
  | 3, _ => exact (by decide : ¬ (65 ≤ (121 : UInt8).toNat ∧ (121 : UInt8).toNat ≤ 90))
  | 4, _ => exact (by decide : ¬ (65 ≤ (108 : UInt8).toNat ∧ (108 : UInt8).toNat ≤ 90))
  | 5, _ => exact (by decide : ¬ (65 ≤ (101 : UInt8).toNat ∧ (101 : UInt8).toNat ≤ 90))

theorem fold_tag (U : ByteArray) (h : 6 ≤ U.size) : foldB (U.extract 0 6) ⟨#[47, 115, 116, 121, 108, 101]⟩ = Esc.starts U.data.toList Esc.tag := by
  rw [Bool.eq_iff_iff, Esc.starts_iff]
  unfold foldB
  rw [beq_iff_eq, Lib.extract_data]
  rfl
theorem fold_at (U : ByteArray) (b : Bool) (h : 6 ≤ U.size) (hs : U.size ≤ 10000) (hb : Esc.starts U.data.toList Esc.tag = b) (w : World) :
    Calls Try.prog 37 #[.string (U.extract 0 6), .string ⟨#[47, 115, 116, 121, 108, 101]⟩] w fun e w' => e = .returned (.bool b) ∧ ∃ n, w' = w.drewN n := by
  rw [← hb, ← fold_tag U h]
  exact fold_any _ _ w (by rw [ByteArray.size_extract]; show _ = 6; omega) (by rw [ByteArray.size_extract]; omega) tagS_plain
theorem starts_short {U : ByteArray} (h : U.size < 6) : Esc.starts U.data.toList Esc.tag = false := by
  rw [← Bool.not_eq_true, Esc.starts_iff]
  intro e
  have := congrArg List.length e
  simp [Esc.tag] at this
  omega
theorem at_dec (l : List UInt8) : (∀ j, ¬ Esc.at_ l j) ∨ ∃ n, Esc.at_ l n ∧ ∀ j, j < n → ¬ Esc.at_ l j := by
  by_cases h : ∃ n, Esc.at_ l n
  · right
    obtain ⟨n, hn⟩ := h
    induction n using Nat.strongRecOn with
    | ind n ih =>
      by_cases h2 : ∃ m, m < n ∧ Esc.at_ l m
      · obtain ⟨m, hm, ha⟩ := h2
        exact ih m hm ha
      · exact ⟨n, hn, fun j hj ha => h2 ⟨j, hj, ha⟩⟩
  · exact .inl fun j hj => h ⟨j, hj⟩

/-- What the loop's rounds keep: what is written, and what is still to come. -/
def Keeps (s T : ByteArray) (i : Nat) (acc : List UInt8) : Prop := acc ++ Esc.esc T.data.toList = Esc.esc s.data.toList ∧ Esc.at_ T.data.toList i ∧ ∀ j, j < i → ¬ Esc.at_ T.data.toList j
theorem Keeps.size {s T : ByteArray} {i : Nat} {acc : List UInt8} (h : Keeps s T i acc) : i + 1 < T.size := by
  have := (List.getElem?_eq_some_iff.1 h.2.1.2).1
  simpa using this
theorem Keeps.acc {s T : ByteArray} {acc : List UInt8} (h : acc ++ Esc.esc T.data.toList = Esc.esc s.data.toList) : acc.length ≤ 2 * s.size := by
  have h1 := congrArg List.length h
  have h2 := Esc.esc_length s.data.toList
  simp at h1 h2
  omega
/-- One step: what is written behind it. -/
theorem Keeps.step {s T : ByteArray} {i : Nat} {acc : List UInt8} (h : Keeps s T i acc) :
    (acc ++ (T.extract 0 (i + 1)).data.toList ++ (if Esc.starts (T.extract (i + 1) T.size).data.toList Esc.tag then [92] else [])) ++ Esc.esc (T.extract (i + 1) T.size).data.toList = Esc.esc s.data.toList := by
  rw [← h.1, Esc.esc_step i _ h.2.2 h.2.1, Lib.extract_data, Lib.extract_to_end]
  simp

set_option maxRecDepth 20000 in
set_option maxHeartbeats 2000000 in
theorem escape_any (s : ByteArray) (w : World) (hs : s.size ≤ 1000) :
    Calls Try.prog 31 #[.string s, .string ⟨#[47, 115, 116, 121, 108, 101]⟩] w fun e w' => e = .returned (.string (escS s)) ∧ Below w.heap.size w w' := by
  rcases at_dec s.data.toList with hno | ⟨n, hat, hmin⟩
  · have HE := Lib.hid (escS_same hno)
    have C := index_none s w (by omega) hno
    clear hno
    go_enter Try.func31, Try.ntmps31
    go_wp2_with (go_at_call 35; refine C.mono ?_; rintro e w1 ⟨rfl, rfl⟩)
    go_ret
    rw [HE.out]
    exact ⟨rfl, Below.refl _ _⟩
  · have C := index_found s n w (by omega) hmin hat
    have HK := Lib.hid (show Keeps s s n [] from ⟨rfl, hat, hmin⟩)
    have hn1 := HK.out.size
    clear hat hmin
    go_enter Try.func31, Try.ntmps31
    go_wp2_with (go_at_call 35; refine C.mono ?_; rintro e w1 ⟨rfl, rfl⟩)
    clear C
    go_loopw [0, 5] (fun t i wr => ∃ (T : ByteArray) (k : Nat) (acc : List UInt8), t = .string T ∧ i = .int .i64 k ∧ T.size ≤ s.size ∧ Hid (Keeps s T k acc) ∧ Hid (Bld w.heap.size acc wr) ∧ Below w.heap.size w wr) (fun t _ _ => match t with | .string T => T.size | _ => 0)
    case atStart => exact ⟨s, n, [], rfl, rfl, Nat.le_refl _, HK, Bld.fresh w, (Below.refl _ w).alloc (Nat.le_refl _) _⟩
    case round =>
      obtain ⟨T, k, acc, rfl, rfl, hTs, HK, HB, hb⟩ := hrel
      have hk := HK.out.size
      have hacc := Keeps.acc (s := s) HK.out.1
      have hstep := HK.out.step
      obtain ⟨U, hU⟩ : ∃ U, T.extract (k + 1) T.size = U := ⟨_, rfl⟩
      have hUz : U.size + (k + 1) = T.size := by rw [← hU, ByteArray.size_extract]; omega
      have hU1 : U.size + (k + 1) ≤ T.size := by omega
      rw [hU] at hstep
      have hPz : (T.extract 0 (k + 1)).size ≤ 1000 := by rw [ByteArray.size_extract]; omega
      have hPl : (T.extract 0 (k + 1)).data.toList.length ≤ 1000 := by simpa using hPz
      obtain ⟨acc1, hacc1⟩ : ∃ acc1, acc ++ (T.extract 0 (k + 1)).data.toList = acc1 := ⟨_, rfl⟩
      have hal : acc1.length ≤ 2 * s.size + 1000 := by rw [← hacc1]; simp only [List.length_append]; omega
      have CW := Lib.hid (bld_string (T.extract 0 (k + 1)) HB.out (by omega) (by omega))
      rw [hacc1] at CW hstep
      have HST := Lib.hid hstep
      clear hstep hacc1 hUz hPz hPl HB HK
      by_cases h6 : 6 ≤ U.size
      · cases hst : Esc.starts U.data.toList Esc.tag with
        | true =>
          have C37 := fun W : World => fold_at U true h6 (by omega) hst W
          have HS2 := Lib.hid (show (acc1 ++ [92]) ++ Esc.esc U.data.toList = Esc.esc s.data.toList by have h := HST.out; rw [hst] at h; exact h)
          have hacc2 := Keeps.acc (s := s) HS2.out
          clear hst HST
          go_wp2_with (first | (go_at_call 36; refine CW.out.mono ?_; rintro e w1 ⟨rfl, hB1, hb1, _⟩; have HB1 := Lib.hid hB1; clear hB1) | (go_at_call 37; refine (C37 _).mono ?_; rintro e w1' ⟨rfl, nq, rfl⟩) | (go_at_call 38; refine (bld_byte (B := w.heap.size) 92 92 rfl (HB1.out.drewN nq) (by omega)).mono ?_; rintro e w2 ⟨rfl, hB2, hb2, _⟩; have HB2 := Lib.hid hB2; clear hB2) | fail)
          have hbx := (hb.trans hb1).trans ((Joins.below_draws w.heap.size w1 nq).trans hb2)
          clear hb1 hb2
          rcases at_dec U.data.toList with hno | ⟨m, hat, hmin⟩
          · have CI := fun W : World => index_none U W (by omega) hno
            have HE := Lib.hid (Esc.esc_none _ hno)
            clear hno
            go_wp2_with (first | (go_at_call 35; refine (CI _).mono ?_; rintro e w3 ⟨rfl, rfl⟩) | (go_at_call 36; refine (bld_string _ HB2.out (by omega) (by omega)).mono ?_; rintro e w4 ⟨rfl, hB4, hb4, _⟩; have HB4 := Lib.hid hB4; clear hB4) | (go_at_call 39; refine (bld_text HB4.out).mono ?_; rintro e w5 ⟨rfl, _, hb5, _⟩))
            go_ret
            have hfin := HS2.out
            rw [HE.out] at hfin
            exact ⟨ret_list (by simpa using hfin), hbx.trans (hb4.trans hb5)⟩
          · have CI := fun W : World => index_found U m W (by omega) hmin hat
            have HK2 := Lib.hid (show Keeps s U m (acc1 ++ [92]) from ⟨HS2.out, hat, hmin⟩)
            clear hat hmin
            go_wp2_with (go_at_call 35; refine (CI _).mono ?_; rintro e w3 ⟨rfl, rfl⟩)
            go_roundw
            case rel => exact ⟨U, m, _, rfl, rfl, by omega, HK2, HB2, hbx⟩
            case measure => simp; omega
        | false =>
          have C37 := fun W : World => fold_at U false h6 (by omega) hst W
          have HS2 := Lib.hid (show acc1 ++ Esc.esc U.data.toList = Esc.esc s.data.toList by have h := HST.out; rw [hst] at h; simpa using h)
          have hacc2 := Keeps.acc (s := s) HS2.out
          clear hst HST
          go_wp2_with (first | (go_at_call 36; refine CW.out.mono ?_; rintro e w1 ⟨rfl, hB1, hb1, _⟩; have HB1 := Lib.hid hB1; clear hB1) | (go_at_call 37; refine (C37 _).mono ?_; rintro e w1' ⟨rfl, nq, rfl⟩) | fail)
          have HB2 := Lib.hid (HB1.out.drewN nq)
          have hbx := (hb.trans hb1).trans (Joins.below_draws w.heap.size w1 nq)
          clear hb1
          rcases at_dec U.data.toList with hno | ⟨m, hat, hmin⟩
          · have CI := fun W : World => index_none U W (by omega) hno
            have HE := Lib.hid (Esc.esc_none _ hno)
            clear hno
            go_wp2_with (first | (go_at_call 35; refine (CI _).mono ?_; rintro e w3 ⟨rfl, rfl⟩) | (go_at_call 36; refine (bld_string _ HB2.out (by omega) (by omega)).mono ?_; rintro e w4 ⟨rfl, hB4, hb4, _⟩; have HB4 := Lib.hid hB4; clear hB4) | (go_at_call 39; refine (bld_text HB4.out).mono ?_; rintro e w5 ⟨rfl, _, hb5, _⟩))
            go_ret
            have hfin := HS2.out
            rw [HE.out] at hfin
            exact ⟨ret_list (by simpa using hfin), hbx.trans (hb4.trans hb5)⟩
          · have CI := fun W : World => index_found U m W (by omega) hmin hat
            have HK2 := Lib.hid (show Keeps s U m acc1 from ⟨HS2.out, hat, hmin⟩)
            clear hat hmin
            go_wp2_with (go_at_call 35; refine (CI _).mono ?_; rintro e w3 ⟨rfl, rfl⟩)
            go_roundw
            case rel => exact ⟨U, m, _, rfl, rfl, by omega, HK2, HB2, hbx⟩
            case measure => simp; omega
      · have hst := starts_short (U := U) (by omega)
        have HS2 := Lib.hid (show acc1 ++ Esc.esc U.data.toList = Esc.esc s.data.toList by have h := HST.out; rw [hst] at h; simpa using h)
        have hacc2 := Keeps.acc (s := s) HS2.out
        clear hst HST
        go_wp2_with (first | (go_at_call 36; refine CW.out.mono ?_; rintro e w1 ⟨rfl, hB1, hb1, _⟩; have HB2 := Lib.hid hB1; clear hB1) | fail)
        have hbx := hb.trans hb1
        clear hb1
        rcases at_dec U.data.toList with hno | ⟨m, hat, hmin⟩
        · have CI := fun W : World => index_none U W (by omega) hno
          have HE := Lib.hid (Esc.esc_none _ hno)
          clear hno
          go_wp2_with (first | (go_at_call 35; refine (CI _).mono ?_; rintro e w3 ⟨rfl, rfl⟩) | (go_at_call 36; refine (bld_string _ HB2.out (by omega) (by omega)).mono ?_; rintro e w4 ⟨rfl, hB4, hb4, _⟩; have HB4 := Lib.hid hB4; clear hB4) | (go_at_call 39; refine (bld_text HB4.out).mono ?_; rintro e w5 ⟨rfl, _, hb5, _⟩))
          go_ret
          have hfin := HS2.out
          rw [HE.out] at hfin
          exact ⟨ret_list (by simpa using hfin), hbx.trans (hb4.trans hb5)⟩
        · have CI := fun W : World => index_found U m W (by omega) hmin hat
          have HK2 := Lib.hid (show Keeps s U m acc1 from ⟨HS2.out, hat, hmin⟩)
          clear hat hmin
          go_wp2_with (go_at_call 35; refine (CI _).mono ?_; rintro e w3 ⟨rfl, rfl⟩)
          go_roundw
          case rel => exact ⟨U, m, _, rfl, rfl, by omega, HK2, HB2, hbx⟩
          case measure => simp; omega
end Go.Proofs.Ytfpfpdjnmfiffaa
