/- Contracts of what FnClosed calls: helpers.zzIndex at '</', helpers.zzEqualFold, spec.Lower. -/
import Derived.Test.YtfpfpdjnmfiffaaEsc
import Derived.Test.YtfpfpdjnmfiffaaFits
import Derived.Lib.ConvBytes
import Derived.Lib.Strings
import Derived.Lib.IndexBytes
import Derived.Lib.SmallJoins
import Derived.Laws.IdiomStrings
import Derived.Deep.QuietTactic
import Derived.BigQuiet
import Derived.Deep.Draws
namespace Go.Proofs.Ytfpfpdjnmfiffaa
open Go.RowKit
set_option linter.unusedVariables false

theorem toList_bne {a b : List UInt8} (h : ¬ a = b) : (a == b) = false := by simpa using h

/-- s[i:i+2] is '</' just if it stands there. -/
theorem pair_at (s : ByteArray) (i : Nat) (h : i + 2 ≤ s.size) : (s.extract i (i + 2)).toList = [60, 47] ↔ Esc.at_ s.data.toList i := by
  have hl : s.data.toList.length = s.size := by simp
  rw [Lib.toList_data, Lib.extract_data, show i + 2 - i = 2 by omega]
  unfold Esc.at_
  generalize s.data.toList = l at hl
  have h1 : i < l.length := by omega
  have h2 : i + 1 < l.length := by omega
  rw [List.drop_eq_getElem_cons h1, List.drop_eq_getElem_cons h2, List.take_succ_cons, List.take_succ_cons, List.take_zero]
  simp [List.getElem?_eq_getElem h1, List.getElem?_eq_getElem h2]

set_option maxHeartbeats 400000 in
theorem index_found (s : ByteArray) (n : Nat) (w : World) (hs : s.size ≤ 10000) (hno : ∀ j, j < n → ¬ Esc.at_ s.data.toList j) (hat : Esc.at_ s.data.toList n) :
    Calls Try.prog 35 #[.string s, .string ⟨#[60, 47]⟩] w fun e w' => e = .returned (.int .i64 n) ∧ w = w' := by
  have hn : n + 2 ≤ s.size := by
    have := (List.getElem?_eq_some_iff.1 hat.2).1
    simp at this; omega
  have HN := Lib.hid hno
  have HA := Lib.hid hat
  clear hno hat
  go_enter Try.func35, Try.ntmps35
  go_wp2
  go_loop [5] (fun i => ∃ k : Nat, k ≤ n ∧ i = .int .i64 k) (fun i => s.size - (intOf i).toNat)
  case atStart => exact ⟨0, Nat.zero_le _, rfl⟩
  case round =>
    obtain ⟨k, hk, rfl⟩ := hrel
    by_cases hkn : k < n
    · have ht : ((s.extract k (k + 2)).toList == [60, 47]) = false := toList_bne (fun e => HN.out k hkn ((pair_at s k (by omega)).1 e))
      go_wp2
      go_round
      case rel => exact ⟨k + 1, by omega, by go_num⟩
      case measure => simp [intOf]; omega
    · obtain rfl : k = n := by omega
      have ht : ((s.extract k (k + 2)).toList == [60, 47]) = true := by rw [(pair_at s k (by omega)).2 HA.out]; rfl
      go_wp2
      go_ret
      exact ⟨rfl, rfl⟩

set_option maxHeartbeats 400000 in
theorem index_none (s : ByteArray) (w : World) (hs : s.size ≤ 10000) (hno : ∀ j, ¬ Esc.at_ s.data.toList j) :
    Calls Try.prog 35 #[.string s, .string ⟨#[60, 47]⟩] w fun e w' => e = .returned (.int .i64 (-1)) ∧ w = w' := by
  have HN := Lib.hid hno
  clear hno
  go_enter Try.func35, Try.ntmps35
  go_wp2
  go_loop [5] (fun i => ∃ k : Nat, k ≤ s.size + 1 ∧ i = .int .i64 k) (fun i => s.size + 2 - (intOf i).toNat)
  case atStart => exact ⟨0, Nat.zero_le _, rfl⟩
  case round =>
    obtain ⟨k, hk, rfl⟩ := hrel
    by_cases hkn : k + 2 ≤ s.size
    · have ht : ((s.extract k (k + 2)).toList == [60, 47]) = false := toList_bne (fun e => HN.out k ((pair_at s k hkn).1 e))
      go_wp2
      go_round
      case rel => exact ⟨k + 1, by omega, by go_num⟩
      case measure => simp [intOf]; omega
    · go_wp2
      go_ret
      exact ⟨rfl, rfl⟩

theorem low_no {b : UInt8} (h : ¬ (65 ≤ b.toNat ∧ b.toNat ≤ 90)) : (Esc.low b).toNat = b.toNat := by simp [Esc.low, h]
theorem low_yes {b : UInt8} (h : 65 ≤ b.toNat ∧ b.toNat ≤ 90) : (Esc.low b).toNat = b.toNat + 32 := by
  have e : (32 : UInt8).toNat = 32 := rfl
  simp only [Esc.low, h, and_self, if_true, UInt8.toNat_add, e]
  omega

/-- zzEqualFold at a second text of small letters and signs. -/
def foldB (s t : ByteArray) : Bool := s.data.toList.map Esc.low == t.data.toList
theorem foldB_no {s t : ByteArray} (i : Nat) (hi : i < s.size) (hj : i < t.size) (h : (Esc.low (s[i]'hi)).toNat ≠ (t[i]'hj).toNat) : foldB s t = false := by
  refine toList_bne fun e => h ?_
  have e2 := congrArg (fun l : List UInt8 => l[i]?) e
  have a1 : (s.data.toList.map Esc.low)[i]? = some (Esc.low (s[i]'hi)) := by
    rw [List.getElem?_map]
    have : s.data.toList[i]? = some (s[i]'hi) := by rw [List.getElem?_eq_getElem (by simpa using hi)]; rfl
    rw [this]; rfl
  have a2 : t.data.toList[i]? = some (t[i]'hj) := by rw [List.getElem?_eq_getElem (by simpa using hj)]; rfl
  simp only [a1, a2] at e2
  rw [Option.some.inj e2]
theorem foldB_yes {s t : ByteArray} (hz : s.size = t.size) (h : ∀ i (hi : i < s.size) (hj : i < t.size), (Esc.low (s[i]'hi)).toNat = (t[i]'hj).toNat) : foldB s t = true := by
  simp only [foldB, beq_iff_eq]
  refine List.ext_getElem (by simpa using hz) fun i h1 h2 => ?_
  have hi : i < s.size := by simpa using h1
  have hj : i < t.size := by simpa using h2
  have := UInt8.toNat_inj.1 (h i hi hj)
  rw [List.getElem_map]
  exact this

set_option maxHeartbeats 1000000 in
theorem fold_any (s t : ByteArray) (w : World) (hz : s.size = t.size) (hs : s.size ≤ 10000) (ht : ∀ i (hi : i < t.size), ¬ (65 ≤ (t[i]'hi).toNat ∧ (t[i]'hi).toNat ≤ 90)) :
    Calls Try.prog 37 #[.string s, .string t] w fun e w' => e = .returned (.bool (foldB s t)) ∧ ∃ n, w' = w.drewN n := by
  have HZ := Lib.hid hz
  have HT := Lib.hid ht
  have hz1 : s.size ≤ t.size := by omega
  have hz2 : t.size ≤ s.size := by omega
  have hzb : ((s.size : Int) != (t.size : Int)) = false := by simp; omega
  clear hz ht
  go_enter Try.func37, Try.ntmps37
  go_wp2
  go_loopw [5] (fun i wr => ∃ (k m : Nat), k ≤ s.size ∧ i = .int .i64 k ∧ wr = w.drewN m ∧ Hid (∀ j (hi : j < s.size) (hj : j < t.size), j < k → (Esc.low (s[j]'hi)).toNat = (t[j]'hj).toNat)) (fun i _ => s.size - (intOf i).toNat)
  case atStart => exact ⟨0, 0, Nat.zero_le _, rfl, rfl, fun _ _ _ h => absurd h (by omega)⟩
  case round =>
    obtain ⟨k, m, hk, rfl, rfl, HA⟩ := hrel
    by_cases hkn : k < s.size
    · have hkt : k < t.size := by omega
      have i1 : (k : Int) < (s.size : Int) := by omega
      have i2 : (k : Int) < (t.size : Int) := by omega
      have htk := HT.out k hkt
      obtain ⟨x, hx⟩ : ∃ x, (s[k]'hkn).toNat = x := ⟨_, rfl⟩
      obtain ⟨y, hy⟩ : ∃ y, (t[k]'hkt).toNat = y := ⟨_, rfl⟩
      rw [hy] at htk
      by_cases hy1 : 65 ≤ y
      · have hy2 : 90 < y := by omega
        by_cases hx1 : 65 ≤ x
        · by_cases hx2 : x ≤ 90
          · by_cases he : x + 32 = y
            · have ht : ((x : Int) + 32 != (y : Int)) = false := by simp; omega
              have HL := Lib.hid (low_yes (b := s[k]) (by omega))
              have HX := Lib.hid hx
              have HY := Lib.hid hy
              clear htk
              go_wp2_with fail
              go_quiet (fail)
              go_wp2
              go_roundw
              case rel =>
                refine ⟨k + 1, _, by omega, by go_num, by first | rfl | (rw [World.drewN_drewN]), fun j hi hj hjk => ?_⟩
                by_cases hjk' : j < k
                · exact HA.out j hi hj hjk'
                · obtain rfl : j = k := by omega
                  have e1 := HL.out; have e2 := HX.out; have e3 := HY.out
                  omega
              case measure => simp [intOf]; omega
            · have ht : ((x : Int) + 32 != (y : Int)) = true := by simp; omega
              have HN := Lib.hid (foldB_no (s := s) (t := t) k hkn hkt (by have := low_yes (b := s[k]) (by omega); omega))
              clear htk
              go_wp2_with fail
              go_quiet (fail)
              go_wp2
              go_ret
              exact ⟨ret_bool HN.out.symm, _, by first | rfl | (rw [World.drewN_drewN])⟩
          · by_cases he : x = y
            · have ht : ((x : Int) != (y : Int)) = false := by simp; omega
              have HL := Lib.hid (low_no (b := s[k]) (by omega))
              have HX := Lib.hid hx
              have HY := Lib.hid hy
              clear htk
              go_wp2_with fail
              go_quiet (fail)
              go_wp2
              go_roundw
              case rel =>
                refine ⟨k + 1, _, by omega, by go_num, by first | rfl | (rw [World.drewN_drewN]), fun j hi hj hjk => ?_⟩
                by_cases hjk' : j < k
                · exact HA.out j hi hj hjk'
                · obtain rfl : j = k := by omega
                  have e1 := HL.out; have e2 := HX.out; have e3 := HY.out
                  omega
              case measure => simp [intOf]; omega
            · have ht : ((x : Int) != (y : Int)) = true := by simp; omega
              have HN := Lib.hid (foldB_no (s := s) (t := t) k hkn hkt (by have := low_no (b := s[k]) (by omega); omega))
              clear htk
              go_wp2_with fail
              go_quiet (fail)
              go_wp2
              go_ret
              exact ⟨ret_bool HN.out.symm, _, by first | rfl | (rw [World.drewN_drewN])⟩
        · by_cases he : x = y
          · exfalso; omega
          · have ht : ((x : Int) != (y : Int)) = true := by simp; omega
            have HN := Lib.hid (foldB_no (s := s) (t := t) k hkn hkt (by have := low_no (b := s[k]) (by omega); omega))
            clear htk
            go_wp2_with fail
            go_quiet (fail)
            go_wp2
            go_ret
            exact ⟨ret_bool HN.out.symm, _, by first | rfl | (rw [World.drewN_drewN])⟩
      · by_cases hx1 : 65 ≤ x
        · by_cases hx2 : x ≤ 90
          · by_cases he : x + 32 = y
            · exfalso; omega
            · have ht : ((x : Int) + 32 != (y : Int)) = true := by simp; omega
              have HN := Lib.hid (foldB_no (s := s) (t := t) k hkn hkt (by have := low_yes (b := s[k]) (by omega); omega))
              clear htk
              go_wp2_with fail
              go_quiet (fail)
              go_wp2
              go_ret
              exact ⟨ret_bool HN.out.symm, _, by first | rfl | (rw [World.drewN_drewN])⟩
          · by_cases he : x = y
            · exfalso; omega
            · have ht : ((x : Int) != (y : Int)) = true := by simp; omega
              have HN := Lib.hid (foldB_no (s := s) (t := t) k hkn hkt (by have := low_no (b := s[k]) (by omega); omega))
              clear htk
              go_wp2_with fail
              go_quiet (fail)
              go_wp2
              go_ret
              exact ⟨ret_bool HN.out.symm, _, by first | rfl | (rw [World.drewN_drewN])⟩
        · by_cases he : x = y
          · have ht : ((x : Int) != (y : Int)) = false := by simp; omega
            have HL := Lib.hid (low_no (b := s[k]) (by omega))
            have HX := Lib.hid hx
            have HY := Lib.hid hy
            clear htk
            go_wp2_with fail
            go_quiet (fail)
            go_wp2
            go_roundw
            case rel =>
              refine ⟨k + 1, _, by omega, by go_num, by first | rfl | (rw [World.drewN_drewN]), fun j hi hj hjk => ?_⟩
              by_cases hjk' : j < k
              · exact HA.out j hi hj hjk'
              · obtain rfl : j = k := by omega
                have e1 := HL.out; have e2 := HX.out; have e3 := HY.out
                omega
            case measure => simp [intOf]; omega
          · have ht : ((x : Int) != (y : Int)) = true := by simp; omega
            have HN := Lib.hid (foldB_no (s := s) (t := t) k hkn hkt (by have := low_no (b := s[k]) (by omega); omega))
            clear htk
            go_wp2_with fail
            go_quiet (fail)
            go_wp2
            go_ret
            exact ⟨ret_bool HN.out.symm, _, by first | rfl | (rw [World.drewN_drewN])⟩
    · go_wp2
      go_ret
      exact ⟨ret_bool (foldB_yes HZ.out (fun i hi hj => HA.out i hi hj (by omega))).symm, m, rfl⟩
end Go.Proofs.Ytfpfpdjnmfiffaa
