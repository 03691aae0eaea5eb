/- FnPackageName holds for every scope, name and parts: no condition. -/
import Derived.Test.YtfpfpdjnmfiffaaPkg
import Derived.ProofKit
import Derived.OpenShut
import Derived.ShutString
import Derived.ChangeOld
import Derived.SliceStrings
namespace Go.Proofs.Ytfpfpdjnmfiffaa.fnPackageName
open Go.ChangeShapes Go.WideShapes Go.ChangeAt Go.RowKit
open Go.ChangeMaps (open_string shut_string)
set_option linter.unusedVariables false
set_option linter.unusedSimpArgs false

theorem rest_more {R p : ByteArray} (h : Rest R) : Rest (R ++ ⟨#[47]⟩ ++ p) := by
  rcases h with h | ⟨r, h⟩
  · exact .inr ⟨p.data.toList, by simp [h]⟩
  · exact .inr ⟨r ++ 47 :: p.data.toList, by simp [h]⟩
theorem size_one (a : UInt8) : (⟨#[a]⟩ : ByteArray).size = 1 := rfl
theorem step_whole {W R S p : ByteArray} (h : S = W ++ R) : S ++ ⟨#[47]⟩ ++ p = W ++ (R ++ ⟨#[47]⟩ ++ p) := by
  rw [h]; exact ext_list (by simp)
theorem ret_true {b : Bool} (h : b = true) : Ending.returned (.bool b) = .returned (.bool true) := by rw [h]

/-- What the loop and what stands behind it do, the name being W. -/
def Fine (W : ByteArray) : Prop := ∀ R : ByteArray, Rest R → R.size ≤ 200 → Tells (W ++ R) W (⟨#[46]⟩ ++ R)

set_option maxRecDepth 100000 in
set_option maxHeartbeats 2000000 in
theorem one (N : ByteArray) (hN : wordB N = true) (a : Option Addr) (n cap : Nat) (ss : List ByteArray) (w : World) (hl : n ≤ 5) (hS : Strs w a n ss) (hfit : ∀ s ∈ ss, s.size ≤ 9223372036854775807) (hf : fitsB ss = true) :
    Calls Try.prog 5 #[.string ⟨#[]⟩, .string N, .slice a n cap] w fun e w' => e = .returned (.bool true) ∧ Below w.heap.size w w' := by
  have hF : Fine (N) := fun R hR hRs => tells_name N R hN hR hRs
  have hn1 := (wordB_out hN).2.1
  have hn2 := (wordB_out hN).2.2
  have C9 : ∀ w' : World, Strs w' a n ss → Calls Try.prog 9 #[.slice a n cap] w' fun e w'' => e = .returned (.bool true) ∧ w' = w'' := fun w' h => by rw [← hf]; exact fits_any a n cap ss w' (by omega) h
  have CN : ∀ w : World, Calls Try.prog 12 #[.string N] w fun e w' => e = .returned (.bool true) ∧ w = w' := fun w => by rw [← hN]; exact word_any N w (by omega)
  have D9 := C9 w hS
  have HS := Lib.hid hS
  clear C9 hf hS
  rcases HS.out.2 with h | ⟨b, off, rfl, hlt, hc⟩
  · obtain rfl : n = 0 := by have := HS.out.1; rw [h] at this; exact this.symm
    clear h
    have HF := Lib.hid hF
    clear hF
    go_enter Try.func5, Try.ntmps5
    go_wp2_with (first | (go_at_call 9; refine D9.mono ?_; rintro e w1 ⟨rfl, rfl⟩) | (go_at_call_of 12 (Value.string N); refine (CN _).mono ?_; rintro e w1 ⟨rfl, rfl⟩))

    go_loopw [8, 9, 56] (fun s d i wr => ∃ (k : Nat) (S D R : ByteArray), k ≤ 0 ∧ i = .int .i64 k ∧ s = .string S ∧ d = .string D ∧ S.size ≤ 50 + 21 * k ∧ D.size ≤ 1 + 21 * k ∧ R.size ≤ 21 * k ∧ Hid (S = (N) ++ R) ∧ Hid (D = ⟨#[46]⟩ ++ R) ∧ Hid (Rest R) ∧ Below w.heap.size w wr) (fun _ _ i _ => 0 - (intOf i).toNat)
    case atStart => exact ⟨0, _, _, ⟨#[]⟩, Nat.zero_le _, rfl, rfl, rfl, by simp [size_one]; omega, by decide, by decide, ext_list (by simp), ext_list (by simp), .inl rfl, Below.refl _ _⟩
    case round =>
      obtain ⟨k, S, D, R, hk, rfl, rfl, rfl, hSs, hDs, hRs, hS, hD, hR, hbw⟩ := hrel
      obtain rfl : k = 0 := by omega
      have C13 := HF.out R hR.out (by omega)
      rw [← hS.out, ← hD.out] at C13
      have HC := Lib.hid C13
      clear C13
      go_wp2_with (go_at_call 13; refine (HC.out _).mono ?_; rintro e w1 ⟨rfl, hb1⟩)
      go_ret
      exact ⟨by first | rfl | simp, hbw.trans (hb1.mono hbw.size)⟩

  · have HC0 := Lib.hid hc
    clear hc
    have HF := Lib.hid hF
    clear hF
    go_enter Try.func5, Try.ntmps5
    go_wp2_with (first | (go_at_call 9; refine D9.mono ?_; rintro e w1 ⟨rfl, rfl⟩) | (go_at_call_of 12 (Value.string N); refine (CN _).mono ?_; rintro e w1 ⟨rfl, rfl⟩))

    go_loopw [8, 9, 56] (fun s d i wr => ∃ (k : Nat) (S D R : ByteArray), k ≤ n ∧ i = .int .i64 k ∧ s = .string S ∧ d = .string D ∧ S.size ≤ 50 + 21 * k ∧ D.size ≤ 1 + 21 * k ∧ R.size ≤ 21 * k ∧ Hid (S = (N) ++ R) ∧ Hid (D = ⟨#[46]⟩ ++ R) ∧ Hid (Rest R) ∧ Below w.heap.size w wr) (fun _ _ i _ => n - (intOf i).toNat)
    case atStart => exact ⟨0, _, _, ⟨#[]⟩, Nat.zero_le _, rfl, rfl, rfl, by simp [size_one]; omega, by decide, by decide, ext_list (by simp), ext_list (by simp), .inl rfl, Below.refl _ _⟩
    case round =>
      obtain ⟨k, S, D, R, hk, rfl, rfl, rfl, hSs, hDs, hRs, hS, hD, hR, hbw⟩ := hrel
      by_cases hkn : k < n
      · have hks : k < ss.length := by have := HS.out.1; omega
        have hc := HC0.out
        have hcell := hbw.cell (p := ⟨b, off + k, none⟩) hlt
        rw [hc k hks] at hcell
        clear hc
        obtain ⟨p, hp⟩ : ∃ p, p = ss[k] := ⟨_, rfl⟩
        rw [← hp] at hcell
        have hps : p.size ≤ 9223372036854775807 := by rw [hp]; have := hfit (ss[k]) (List.getElem_mem _); omega
        clear hp
        by_cases hw : wordB p = true
        · obtain ⟨_, _, hp2⟩ := wordB_out hw
          have C12 : ∀ w : World, Calls Try.prog 12 #[.string p] w fun e w' => e = .returned (.bool true) ∧ w = w' := fun w => by rw [← hw]; exact word_any p w hps
          go_wp2_with (go_at_call 12; refine (C12 _).mono ?_; rintro e w1 ⟨rfl, rfl⟩)
          go_roundw
          case rel => exact ⟨k + 1, _, _, R ++ ⟨#[47]⟩ ++ p, by omega, by go_num, rfl, rfl, by simp [size_one]; omega, by simp [size_one]; omega, by simp [size_one]; omega, Lib.hid (step_whole hS.out), Lib.hid (step_whole hD.out), Lib.hid (rest_more hR.out), hbw⟩
          case measure => simp [intOf]; omega
        · have hw' : wordB p = false := by simpa using hw
          have C12 : ∀ w : World, Calls Try.prog 12 #[.string p] w fun e w' => e = .returned (.bool false) ∧ w = w' := fun w => by rw [← hw']; exact word_any p w hps
          go_wp2_with (go_at_call 12; refine (C12 _).mono ?_; rintro e w1 ⟨rfl, rfl⟩)
          go_ret
          exact ⟨rfl, hbw⟩
      · have C13 := HF.out R hR.out (by omega)
        rw [← hS.out, ← hD.out] at C13
        have HC := Lib.hid C13
        clear C13
        go_wp2_with (go_at_call 13; refine (HC.out _).mono ?_; rintro e w1 ⟨rfl, hb1⟩)
        go_ret
        exact ⟨by first | rfl | simp, hbw.trans (hb1.mono hbw.size)⟩

set_option maxRecDepth 100000 in
set_option maxHeartbeats 2000000 in
theorem two (C N : ByteArray) (hC : wordB C = true) (hN : wordB N = true) (a : Option Addr) (n cap : Nat) (ss : List ByteArray) (w : World) (hl : n ≤ 5) (hS : Strs w a n ss) (hfit : ∀ s ∈ ss, s.size ≤ 9223372036854775807) (hf : fitsB ss = true) :
    Calls Try.prog 5 #[.string C, .string N, .slice a n cap] w fun e w' => e = .returned (.bool true) ∧ Below w.heap.size w w' := by
  have hF : Fine (⟨#[64]⟩ ++ C ++ ⟨#[47]⟩ ++ N) := fun R hR hRs => tells_scoped C N _ R hC hN rfl hR hRs
  have hn1 := (wordB_out hN).2.1
  have hn2 := (wordB_out hN).2.2
  have C9 : ∀ w' : World, Strs w' a n ss → Calls Try.prog 9 #[.slice a n cap] w' fun e w'' => e = .returned (.bool true) ∧ w' = w'' := fun w' h => by rw [← hf]; exact fits_any a n cap ss w' (by omega) h
  have CN : ∀ w : World, Calls Try.prog 12 #[.string N] w fun e w' => e = .returned (.bool true) ∧ w = w' := fun w => by rw [← hN]; exact word_any N w (by omega)
  have hc1 := (wordB_out hC).2.1
  have hc2 := (wordB_out hC).2.2
  have CC : ∀ w : World, Calls Try.prog 12 #[.string C] w fun e w' => e = .returned (.bool true) ∧ w = w' := fun w => by rw [← hC]; exact word_any C w (by omega)
  have hne := ne_empty (W := C) (by omega)
  have D9 := C9 w hS
  have HS := Lib.hid hS
  clear C9 hf hS
  rcases HS.out.2 with h | ⟨b, off, rfl, hlt, hc⟩
  · obtain rfl : n = 0 := by have := HS.out.1; rw [h] at this; exact this.symm
    clear h
    have HF := Lib.hid hF
    clear hF
    go_enter Try.func5, Try.ntmps5
    go_wp2_with (first | (go_at_call 9; refine D9.mono ?_; rintro e w1 ⟨rfl, rfl⟩) | (go_at_call_of 12 (Value.string N); refine (CN _).mono ?_; rintro e w1 ⟨rfl, rfl⟩) | (go_at_call_of 12 (Value.string C); refine (CC _).mono ?_; rintro e w1 ⟨rfl, rfl⟩))

    go_loopw [8, 9, 56] (fun s d i wr => ∃ (k : Nat) (S D R : ByteArray), k ≤ 0 ∧ i = .int .i64 k ∧ s = .string S ∧ d = .string D ∧ S.size ≤ 50 + 21 * k ∧ D.size ≤ 1 + 21 * k ∧ R.size ≤ 21 * k ∧ Hid (S = (⟨#[64]⟩ ++ C ++ ⟨#[47]⟩ ++ N) ++ R) ∧ Hid (D = ⟨#[46]⟩ ++ R) ∧ Hid (Rest R) ∧ Below w.heap.size w wr) (fun _ _ i _ => 0 - (intOf i).toNat)
    case atStart => exact ⟨0, _, _, ⟨#[]⟩, Nat.zero_le _, rfl, rfl, rfl, by simp [size_one]; omega, by decide, by decide, ext_list (by simp), ext_list (by simp), .inl rfl, Below.refl _ _⟩
    case round =>
      obtain ⟨k, S, D, R, hk, rfl, rfl, rfl, hSs, hDs, hRs, hS, hD, hR, hbw⟩ := hrel
      obtain rfl : k = 0 := by omega
      have C13 := HF.out R hR.out (by omega)
      rw [← hS.out, ← hD.out] at C13
      have HC := Lib.hid C13
      clear C13
      go_wp2_with (go_at_call 13; refine (HC.out _).mono ?_; rintro e w1 ⟨rfl, hb1⟩)
      go_ret
      exact ⟨by first | rfl | simp, hbw.trans (hb1.mono hbw.size)⟩

  · have HC0 := Lib.hid hc
    clear hc
    have HF := Lib.hid hF
    clear hF
    go_enter Try.func5, Try.ntmps5
    go_wp2_with (first | (go_at_call 9; refine D9.mono ?_; rintro e w1 ⟨rfl, rfl⟩) | (go_at_call_of 12 (Value.string N); refine (CN _).mono ?_; rintro e w1 ⟨rfl, rfl⟩) | (go_at_call_of 12 (Value.string C); refine (CC _).mono ?_; rintro e w1 ⟨rfl, rfl⟩))

    go_loopw [8, 9, 56] (fun s d i wr => ∃ (k : Nat) (S D R : ByteArray), k ≤ n ∧ i = .int .i64 k ∧ s = .string S ∧ d = .string D ∧ S.size ≤ 50 + 21 * k ∧ D.size ≤ 1 + 21 * k ∧ R.size ≤ 21 * k ∧ Hid (S = (⟨#[64]⟩ ++ C ++ ⟨#[47]⟩ ++ N) ++ R) ∧ Hid (D = ⟨#[46]⟩ ++ R) ∧ Hid (Rest R) ∧ Below w.heap.size w wr) (fun _ _ i _ => n - (intOf i).toNat)
    case atStart => exact ⟨0, _, _, ⟨#[]⟩, Nat.zero_le _, rfl, rfl, rfl, by simp [size_one]; omega, by decide, by decide, ext_list (by simp), ext_list (by simp), .inl rfl, Below.refl _ _⟩
    case round =>
      obtain ⟨k, S, D, R, hk, rfl, rfl, rfl, hSs, hDs, hRs, hS, hD, hR, hbw⟩ := hrel
      by_cases hkn : k < n
      · have hks : k < ss.length := by have := HS.out.1; omega
        have hc := HC0.out
        have hcell := hbw.cell (p := ⟨b, off + k, none⟩) hlt
        rw [hc k hks] at hcell
        clear hc
        obtain ⟨p, hp⟩ : ∃ p, p = ss[k] := ⟨_, rfl⟩
        rw [← hp] at hcell
        have hps : p.size ≤ 9223372036854775807 := by rw [hp]; have := hfit (ss[k]) (List.getElem_mem _); omega
        clear hp
        by_cases hw : wordB p = true
        · obtain ⟨_, _, hp2⟩ := wordB_out hw
          have C12 : ∀ w : World, Calls Try.prog 12 #[.string p] w fun e w' => e = .returned (.bool true) ∧ w = w' := fun w => by rw [← hw]; exact word_any p w hps
          go_wp2_with (go_at_call 12; refine (C12 _).mono ?_; rintro e w1 ⟨rfl, rfl⟩)
          go_roundw
          case rel => exact ⟨k + 1, _, _, R ++ ⟨#[47]⟩ ++ p, by omega, by go_num, rfl, rfl, by simp [size_one]; omega, by simp [size_one]; omega, by simp [size_one]; omega, Lib.hid (step_whole hS.out), Lib.hid (step_whole hD.out), Lib.hid (rest_more hR.out), hbw⟩
          case measure => simp [intOf]; omega
        · have hw' : wordB p = false := by simpa using hw
          have C12 : ∀ w : World, Calls Try.prog 12 #[.string p] w fun e w' => e = .returned (.bool false) ∧ w = w' := fun w => by rw [← hw']; exact word_any p w hps
          go_wp2_with (go_at_call 12; refine (C12 _).mono ?_; rintro e w1 ⟨rfl, rfl⟩)
          go_ret
          exact ⟨rfl, hbw⟩
      · have C13 := HF.out R hR.out (by omega)
        rw [← hS.out, ← hD.out] at C13
        have HC := Lib.hid C13
        clear C13
        go_wp2_with (go_at_call 13; refine (HC.out _).mono ?_; rintro e w1 ⟨rfl, hb1⟩)
        go_ret
        exact ⟨by first | rfl | simp, hbw.trans (hb1.mono hbw.size)⟩

set_option maxRecDepth 100000 in
set_option maxHeartbeats 1000000 in
theorem e_scope (C N : ByteArray) (a : Option Addr) (n cap : Nat) (ss : List ByteArray) (w : World) (hC : C.size ≤ 9223372036854775807) (hN : N.size ≤ 9223372036854775807) (hn : n ≤ 9223372036854775807) (hS : Strs w a n ss) (h : 2147483647 < C.size) :
    Calls Try.prog 5 #[.string C, .string N, .slice a n cap] w fun e w' => e = .returned (.bool true) ∧ Below w.heap.size w w' := by
  have h1 : decide ((2147483647 : Int) < (C.size : Int)) = true := by simp; omega
  clear hS h
  go_enter Try.func5, Try.ntmps5
  go_wp2
  go_ret
  exact ⟨rfl, Below.refl _ _⟩

set_option maxRecDepth 100000 in
set_option maxHeartbeats 1000000 in
theorem e_name (C N : ByteArray) (a : Option Addr) (n cap : Nat) (ss : List ByteArray) (w : World) (hC : C.size ≤ 9223372036854775807) (hN : N.size ≤ 9223372036854775807) (hn : n ≤ 9223372036854775807) (hS : Strs w a n ss) (h0 : C.size ≤ 2147483647) (h : 2147483647 < N.size) :
    Calls Try.prog 5 #[.string C, .string N, .slice a n cap] w fun e w' => e = .returned (.bool true) ∧ Below w.heap.size w w' := by
  have h1 : decide ((2147483647 : Int) < (C.size : Int)) = false := by simp; omega
  have h2 : decide ((2147483647 : Int) < (N.size : Int)) = true := by simp; omega
  clear hS h h0
  go_enter Try.func5, Try.ntmps5
  go_wp2
  go_ret
  exact ⟨rfl, Below.refl _ _⟩

set_option maxRecDepth 100000 in
set_option maxHeartbeats 1000000 in
theorem e_parts (C N : ByteArray) (a : Option Addr) (n cap : Nat) (ss : List ByteArray) (w : World) (hC : C.size ≤ 9223372036854775807) (hN : N.size ≤ 9223372036854775807) (hn : n ≤ 9223372036854775807) (hS : Strs w a n ss) (h0 : C.size ≤ 2147483647) (h3 : N.size ≤ 2147483647) (hf : fitsB ss = false) :
    Calls Try.prog 5 #[.string C, .string N, .slice a n cap] w fun e w' => e = .returned (.bool true) ∧ Below w.heap.size w w' := by
  have h1 : decide ((2147483647 : Int) < (C.size : Int)) = false := by simp; omega
  have h2 : decide ((2147483647 : Int) < (N.size : Int)) = false := by simp; omega
  have C9 : Calls Try.prog 9 #[.slice a n cap] w fun e w'' => e = .returned (.bool false) ∧ w = w'' := by rw [← hf]; exact fits_any a n cap ss w hn hS
  clear hf hS h0 h3
  go_enter Try.func5, Try.ntmps5
  go_wp2_with (first | (go_at_call 9; refine C9.mono ?_; rintro e w1 ⟨rfl, rfl⟩))
  go_ret
  exact ⟨rfl, Below.refl _ _⟩

set_option maxRecDepth 100000 in
set_option maxHeartbeats 1000000 in
theorem e_word (C N : ByteArray) (a : Option Addr) (n cap : Nat) (ss : List ByteArray) (w : World) (hC : C.size ≤ 9223372036854775807) (hN : N.size ≤ 9223372036854775807) (hn : n ≤ 9223372036854775807) (hS : Strs w a n ss) (h0 : C.size ≤ 2147483647) (h3 : N.size ≤ 2147483647) (hf : fitsB ss = true) (hw : wordB N = false) :
    Calls Try.prog 5 #[.string C, .string N, .slice a n cap] w fun e w' => e = .returned (.bool true) ∧ Below w.heap.size w w' := by
  have h1 : decide ((2147483647 : Int) < (C.size : Int)) = false := by simp; omega
  have h2 : decide ((2147483647 : Int) < (N.size : Int)) = false := by simp; omega
  have C9 : Calls Try.prog 9 #[.slice a n cap] w fun e w'' => e = .returned (.bool true) ∧ w = w'' := by rw [← hf]; exact fits_any a n cap ss w hn hS
  have CN : ∀ w : World, Calls Try.prog 12 #[.string N] w fun e w' => e = .returned (.bool false) ∧ w = w' := fun w => by rw [← hw]; exact word_any N w hN
  clear hf hS h0 h3 hw
  go_enter Try.func5, Try.ntmps5
  go_wp2_with (first | (go_at_call 9; refine C9.mono ?_; rintro e w1 ⟨rfl, rfl⟩) | (go_at_call_of 12 (Value.string N); refine (CN _).mono ?_; rintro e w1 ⟨rfl, rfl⟩))
  go_ret
  exact ⟨rfl, Below.refl _ _⟩

set_option maxRecDepth 100000 in
set_option maxHeartbeats 1000000 in
theorem e_cword (C N : ByteArray) (a : Option Addr) (n cap : Nat) (ss : List ByteArray) (w : World) (hC : C.size ≤ 9223372036854775807) (hN : N.size ≤ 9223372036854775807) (hn : n ≤ 9223372036854775807) (hS : Strs w a n ss) (h0 : C.size ≤ 2147483647) (h3 : N.size ≤ 2147483647) (hf : fitsB ss = true) (hw : wordB N = true) (hne : 0 < C.size) (hv : wordB C = false) :
    Calls Try.prog 5 #[.string C, .string N, .slice a n cap] w fun e w' => e = .returned (.bool true) ∧ Below w.heap.size w w' := by
  have h1 : decide ((2147483647 : Int) < (C.size : Int)) = false := by simp; omega
  have h2 : decide ((2147483647 : Int) < (N.size : Int)) = false := by simp; omega
  have C9 : Calls Try.prog 9 #[.slice a n cap] w fun e w'' => e = .returned (.bool true) ∧ w = w'' := by rw [← hf]; exact fits_any a n cap ss w hn hS
  have CN : ∀ w : World, Calls Try.prog 12 #[.string N] w fun e w' => e = .returned (.bool true) ∧ w = w' := fun w => by rw [← hw]; exact word_any N w hN
  have CC : ∀ w : World, Calls Try.prog 12 #[.string C] w fun e w' => e = .returned (.bool false) ∧ w = w' := fun w => by rw [← hv]; exact word_any C w hC
  have he := ne_empty hne
  clear hf hS h0 h3 hw hv hne
  go_enter Try.func5, Try.ntmps5
  go_wp2_with (first | (go_at_call 9; refine C9.mono ?_; rintro e w1 ⟨rfl, rfl⟩) | (go_at_call_of 12 (Value.string N); refine (CN _).mono ?_; rintro e w1 ⟨rfl, rfl⟩) | (go_at_call_of 12 (Value.string C); refine (CC _).mono ?_; rintro e w1 ⟨rfl, rfl⟩))
  go_ret
  exact ⟨rfl, Below.refl _ _⟩

set_option maxRecDepth 100000 in
set_option maxHeartbeats 1000000 in
theorem e_many (C N : ByteArray) (a : Option Addr) (n cap : Nat) (ss : List ByteArray) (w : World) (hC : C.size ≤ 9223372036854775807) (hN : N.size ≤ 9223372036854775807) (hn : n ≤ 9223372036854775807) (hS : Strs w a n ss) (h0 : C.size ≤ 2147483647) (h3 : N.size ≤ 2147483647) (hf : fitsB ss = true) (hw : wordB N = true) (hne : 0 < C.size) (hv : wordB C = true) (h5 : 5 < n) :
    Calls Try.prog 5 #[.string C, .string N, .slice a n cap] w fun e w' => e = .returned (.bool true) ∧ Below w.heap.size w w' := by
  have h1 : decide ((2147483647 : Int) < (C.size : Int)) = false := by simp; omega
  have h2 : decide ((2147483647 : Int) < (N.size : Int)) = false := by simp; omega
  have C9 : Calls Try.prog 9 #[.slice a n cap] w fun e w'' => e = .returned (.bool true) ∧ w = w'' := by rw [← hf]; exact fits_any a n cap ss w hn hS
  have CN : ∀ w : World, Calls Try.prog 12 #[.string N] w fun e w' => e = .returned (.bool true) ∧ w = w' := fun w => by rw [← hw]; exact word_any N w hN
  have CC : ∀ w : World, Calls Try.prog 12 #[.string C] w fun e w' => e = .returned (.bool true) ∧ w = w' := fun w => by rw [← hv]; exact word_any C w hC
  have he := ne_empty hne
  clear hf hS h0 h3 hw hv hne
  go_enter Try.func5, Try.ntmps5
  go_wp2_with (first | (go_at_call 9; refine C9.mono ?_; rintro e w1 ⟨rfl, rfl⟩) | (go_at_call_of 12 (Value.string N); refine (CN _).mono ?_; rintro e w1 ⟨rfl, rfl⟩) | (go_at_call_of 12 (Value.string C); refine (CC _).mono ?_; rintro e w1 ⟨rfl, rfl⟩))
  go_ret
  exact ⟨rfl, Below.refl _ _⟩

set_option maxRecDepth 100000 in
set_option maxHeartbeats 1000000 in
theorem e_many0 (C N : ByteArray) (a : Option Addr) (n cap : Nat) (ss : List ByteArray) (w : World) (hC : C.size ≤ 9223372036854775807) (hN : N.size ≤ 9223372036854775807) (hn : n ≤ 9223372036854775807) (hS : Strs w a n ss) (h3 : N.size ≤ 2147483647) (hf : fitsB ss = true) (hw : wordB N = true) (h5 : 5 < n) :
    Calls Try.prog 5 #[.string ⟨#[]⟩, .string N, .slice a n cap] w fun e w' => e = .returned (.bool true) ∧ Below w.heap.size w w' := by
  have h2 : decide ((2147483647 : Int) < (N.size : Int)) = false := by simp; omega
  have C9 : Calls Try.prog 9 #[.slice a n cap] w fun e w'' => e = .returned (.bool true) ∧ w = w'' := by rw [← hf]; exact fits_any a n cap ss w hn hS
  have CN : ∀ w : World, Calls Try.prog 12 #[.string N] w fun e w' => e = .returned (.bool true) ∧ w = w' := fun w => by rw [← hw]; exact word_any N w hN
  clear hf hS h3 hw
  go_enter Try.func5, Try.ntmps5
  go_wp2_with (first | (go_at_call 9; refine C9.mono ?_; rintro e w1 ⟨rfl, rfl⟩) | (go_at_call_of 12 (Value.string N); refine (CN _).mono ?_; rintro e w1 ⟨rfl, rfl⟩))
  go_ret
  exact ⟨rfl, Below.refl _ _⟩

theorem walk (C : ByteArray) (wC : C.size ≤ maxLen) (N : ByteArray) (wN : N.size ≤ maxLen) (a : Option Addr) (n cap : Nat) (ss : List ByteArray) (w : World) (hS : Strs w a n ss) (hss : ∀ s ∈ ss, s.size ≤ maxLen) (hn : n ≤ maxLen) :
    Calls Try.prog 5 #[.string C, .string N, .slice a n cap] w fun e w' => e = .returned (.bool true) ∧ Below w.heap.size w w' := by
  unfold maxLen at *
  by_cases h0 : C.size ≤ 2147483647
  · by_cases h3 : N.size ≤ 2147483647
    · cases hf : fitsB ss with
      | false => exact e_parts C N a n cap ss w wC wN hn hS h0 h3 hf
      | true =>
        cases hw : wordB N with
        | false => exact e_word C N a n cap ss w wC wN hn hS h0 h3 hf hw
        | true =>
          by_cases hc : 0 < C.size
          · cases hv : wordB C with
            | false => exact e_cword C N a n cap ss w wC wN hn hS h0 h3 hf hw hc hv
            | true =>
              by_cases h5 : n ≤ 5
              · exact two C N hv hw a n cap ss w h5 hS hss hf
              · exact e_many C N a n cap ss w wC wN hn hS h0 h3 hf hw hc hv (by omega)
          · have e : C = ⟨#[]⟩ := ext_list (by
              have := len_list C
              exact List.eq_nil_of_length_eq_zero (by omega))
            subst e
            by_cases h5 : n ≤ 5
            · exact one N hw a n cap ss w h5 hS hss hf
            · exact e_many0 ⟨#[]⟩ N a n cap ss w wC wN hn hS h3 hf hw (by omega)
    · exact e_name C N a n cap ss w wC wN hn hS h0 (by omega)
  · exact e_scope C N a n cap ss w wC wN hn hS (by omega)

theorem own : ownKnob Try.prog.godebug = none := by kernel_rfl
theorem laidOut : laidOutB Try.prog = true := by kernel_rfl
set_option maxRecDepth 100000 in
theorem lifted (os : Os) (started : os.Started) (H : Type) (enc : TypeId × Value → H) :
    ReturnsInHanded {} Try.checked os 5 .any (Rows.fnPackageNameSpec.pre6 enc Try.prog Try.f5 Rows.fnPackageNameRow.domain false) (Rows.fnPackageNameSpec.post enc Try.prog Try.f5 false true false false) := by
  refine returnsInHanded_of_change (C := Try.checked) own started (by kernel_rfl) Try.func5
    (ChangeSpec.witness6 (enc := enc) (C := Try.checked) false ⟨#[], #[.string ByteArray.empty, .string ByteArray.empty, .slice none 0 0], []⟩ 8 (by kernel_rfl) (by kernel_rfl) (by kernel_rfl) (by kernel_rfl)) ?_
  intro W base args ds gs before hval0 hW hcnd _
  have hval : ∀ (j : Nat) t v, Try.f5.params[j]? = some t → args[j]? = some v → Value.okWide Try.prog W .any base t v := hval0
  have hW' := hW
  obtain ⟨p, q, hA0, hV, rfl, hfz, hnd⟩ := hW
  have hA : DataW.TrodAll enc Try.prog W 0 (fun _ => true) true Try.f5.params.toList args.toList ds p := hA0
  rw [Try.params5] at hA hval
  obtain ⟨v0, vs0, d0, ds0, p0, q0, hargs, rfl, rfl, h0, r0⟩ := trodAll_cons hA
  obtain ⟨v1, vs1, d1, ds1, p1, q1, rfl, rfl, rfl, h1, r1⟩ := trodAll_cons r0
  obtain ⟨v2, vs2, d2, ds2, p2, q2, rfl, rfl, rfl, h2, r2⟩ := trodAll_cons r1
  obtain ⟨rfl, rfl, rfl⟩ := trodAll_nil r2
  obtain rfl : args = #[v0, v1, v2] := by cases args; simp_all
  obtain ⟨rfl, rfl⟩ := trodVars_none hV
  have k0 := h0
  have lt0 : ∀ x ∈ p0, x.block < W.heap.size := by obtain ⟨m, hm⟩ := k0; exact DataW.trod_lt m _ _ _ hm
  have k1 := h1
  have lt1 : ∀ x ∈ p1, x.block < W.heap.size := by obtain ⟨m, hm⟩ := k1; exact DataW.trod_lt m _ _ _ hm
  have k2 := h2
  have lt2 : ∀ x ∈ p2, x.block < W.heap.size := by obtain ⟨m, hm⟩ := k2; exact DataW.trod_lt m _ _ _ hm
  obtain ⟨a0, rfl, rfl, rfl, w0⟩ := open_string Try.underlying9 (hval 0 9 v0 rfl rfl) h0
  obtain ⟨a1, rfl, rfl, rfl, w1⟩ := open_string Try.underlying9 (hval 1 9 v1 rfl rfl) h1
  obtain ⟨a2, len2, cap2, rfl⟩ := okWide_slice Try.underlying22 (hval 2 22 v2 rfl rfl)
  obtain ⟨z2, w2, u2, n2⟩ : ∃ ss, Strs W a2 len2 ss ∧ (∀ s ∈ ss, s.size ≤ maxLen) ∧ len2 ≤ maxLen := by
    obtain ⟨fuel, hf⟩ := h2
    rcases open_strings Try.underlying22 Try.underlying9 (by kernel_rfl) hf with ⟨hcs, _⟩ | ⟨x, l, c, zs, hcs, _, hl, hm, hz, _, hcell, hwz⟩
    · simp [Value.cells] at hcs
      obtain ⟨rfl, rfl, rfl⟩ := hcs
      exact ⟨[], ⟨rfl, .inl rfl⟩, by simp, Nat.zero_le _⟩
    · simp [Value.cells] at hcs
      obtain ⟨rfl, rfl, rfl⟩ := hcs
      exact ⟨zs.take _, strs_of (by simp at hz; omega) hcell, fun s hs => hwz s (List.mem_of_mem_take hs), by omega⟩
  clear hA0 hval0
  refine (walk a0 w0 a1 w1 a2 len2 cap2 z2 W w2 u2 n2).mono fun e W' ⟨he, bel⟩ => ?_
  subst he
  exact ⟨_, rfl, _, _, _, [], _, [], hW', trodAll_mk1 (shut_bool Try.underlying4 _), (trodAll_cons_mk (Below.trod laidOut (by kernel_rfl) (of_decide_eq_true (by kernel_rfl)) k0 bel lt0) (trodAll_cons_mk (Below.trod laidOut (by kernel_rfl) (of_decide_eq_true (by kernel_rfl)) k1 bel lt1) (trodAll_cons_mk (Below.trod laidOut (by kernel_rfl) (of_decide_eq_true (by kernel_rfl)) k2 bel lt2) trodAll_mk0))), rfl, bel.frame _, fun h => by cases h⟩

theorem over : Rows.fnPackageNameRow.holds Try.pinned (OpenSpec.ofChange Rows.fnPackageNameSpec) :=
  OpenClaim.holds_of_wide 5 Try.f5 rfl rfl rfl rfl rfl rfl rfl ⟨rfl, rfl, rfl, rfl, rfl⟩ rfl rfl rfl rfl rfl (by kernel_rfl) Try.func5 (by kernel_rfl)
    (of_decide_eq_true (by kernel_rfl)) (by unfold Func.isWrapper; first | (rw [if_pos (by decide +kernel)]; kernel_rfl) | (rw [if_neg (by decide +kernel)]; exact ⟨rfl, rfl⟩))
    (fun os started H enc _ => lifted os started H enc)
theorem proved : Rows.FnPackageNameSaid := over
#print axioms proved

end Go.Proofs.Ytfpfpdjnmfiffaa.fnPackageName
