/- net/url.unescape (40) of a text whose every percent sign begins an escape: the text that the escapes spell. -/
import Derived.Test.YtmfbnmjmgpafmaaDoorUnsA
import Derived.Test.YtmfbnmjmgpafmaaDoorPctM
import Derived.StillTailTactics
namespace Go.Proofs.YtmfbnmjmgpafmaaDoor
open Go.RowKit
set_option linter.unusedVariables false
set_option linter.unusedSimpArgs false
theorem bld_grow {B n : Nat} {w : World} (hw : w.heap[B]? = some (.cells #[.pointer none, .slice none 0 0] 49 (0, 0))) (hn : n ≤ 1000000) :
    Calls Tryd.prog 54 #[.pointer (some ⟨B, 0, none⟩), .int .i64 (n : Int)] w fun e w' => e = .returned (.tuple #[]) ∧ Bld B [] w' ∧ Below B w w' := by
  have hlt : B < w.heap.size := (Array.getElem?_eq_some_iff.1 hw).1
  refine (Tryd.Builder_Grow_fresh B B n w (Nat.le_refl _) hw (Nat.le_of_lt hlt) (by omega)).mono ?_
  rintro e w' ⟨rfl, h1, h2⟩
  exact ⟨rfl, Lib.IsBuilderF.of (.inr h1), h2⟩
set_option maxRecDepth 1000000 in
set_option maxHeartbeats 16000000 in
theorem unescape_any (s : ByteArray) (w : World) (hs : s.size ≤ 100000) (hwf : Wf (nums s)) (hT : UrlTab 3 w) (hw3 : 3 < w.heap.size) :
    Calls Tryd.prog 40 #[.string s, .int .u8 2] w fun e w' => (∃ q : ByteArray, nums q = unp (nums s) ∧ e = .returned (.tuple #[.string q, .nilIface])) ∧ Below w.heap.size w w' := by
  have HLT : Hid (∀ b ∈ unp (nums s), b < 256) := Lib.hid (unp_lt _ _ (Nat.le_refl _) (nums_lt s))
  have hnl := nums_len s
  have HT := Lib.hid hT
  have HW := Lib.hid hwf
  clear hT hwf
  go_enter Tryd.func40, Tryd.ntmps40
  go_wp2
  go_loop [0, 6, 7, 8] (fun sv nv pv iv => sv = .string s ∧ pv = .bool false ∧ ∃ (i n : Nat), nv = .int .i64 (n : Int) ∧ iv = .int .i64 (i : Int) ∧ i ≤ s.size ∧ 3 * n ≤ i ∧ Hid (Wf ((nums s).drop i)) ∧ Hid (n = 0 → (nums s).take i ++ unp ((nums s).drop i) = unp (nums s))) (fun _ _ _ iv => s.size - (intOf iv).toNat)
  case atStart => exact ⟨rfl, rfl, 0, 0, rfl, rfl, Nat.zero_le _, Nat.le_refl _, Lib.hid HW.out, Lib.hid (fun _ => rfl)⟩
  case round =>
    obtain ⟨rfl, rfl, i, n, rfl, rfl, hi, hn, HWi, HUi⟩ := hrel
    by_cases hlt : i < s.size
    · obtain ⟨c, hc⟩ : ∃ c, (nums s).getD i 0 = c := ⟨_, rfl⟩
      have g0 := at_num hlt hc
      have c256 : c < 256 := by rw [← g0]; exact UInt8.toNat_lt _
      by_cases h37 : c = 37
      · subst h37
        obtain ⟨h2, hh1, hh2, hw4⟩ := HWi.out.at_esc (by omega) hc
        rw [hnl] at h2
        have HW4 := Lib.hid hw4
        have HU4 : Hid (n + 1 = 0 → (nums s).take (i + 3) ++ unp ((nums s).drop (i + 3)) = unp (nums s)) := Lib.hid (fun h => by omega)
        have t2 : decide ((s.size : Int) ≤ (i : Int) + 2) = false := by simp; omega
        have hi1 : i + 1 < s.size := by omega
        have hi2 : i + 2 < s.size := by omega
        obtain ⟨a1, ha1⟩ : ∃ a, (nums s).getD (i + 1) 0 = a := ⟨_, rfl⟩
        obtain ⟨a2, ha2⟩ : ∃ a, (nums s).getD (i + 2) 0 = a := ⟨_, rfl⟩
        have g1 := at_num hi1 ha1
        have g2 := at_num hi2 ha2
        rw [ha1] at hh1
        rw [ha2] at hh2
        have D1 := Lib.hid (ishex_yes a1 w hh1 HT.out)
        have D2 := Lib.hid (ishex_yes a2 w hh2 HT.out)
        clear ha1 ha2 hw4 hc hh1 hh2
        go_wp2_with (first | (go_at_call 51; (with_reducible refine D1.out.mono ?_); rintro e w8 ⟨rfl, hw8⟩; rw [hw8]; clear hw8 w8) | (go_at_call 51; (with_reducible refine D2.out.mono ?_); rintro e w8 ⟨rfl, hw8⟩; rw [hw8]; clear hw8 w8))
        go_round
        case rel => exact ⟨rfl, rfl, i + 3, n + 1, by go_num, by go_num, by omega, by omega, HW4, HU4⟩
        case measure => simp [intOf]; omega
      · have HW4 := Lib.hid (HWi.out.at_raw (by omega) (by rw [hc]; exact h37))
        have HU4 : Hid (n = 0 → (nums s).take (i + 1) ++ unp ((nums s).drop (i + 1)) = unp (nums s)) := Lib.hid (fun h => by
          rw [← HUi.out h, unp_wf_raw (t := nums s) (i := i) (by omega) (by rw [hc]; exact h37), hc, List.take_add_one]
          have : (nums s)[i]? = some c := by rw [← hc, List.getD, List.getElem?_eq_getElem (by omega)]; rfl
          rw [this]
          simp)
        have t1 : ((c : Int) == 37) = false := by simp; omega
        clear hc
        by_cases h43 : c = 43
        · subst h43
          go_wp2_with fail
          go_round
          case rel => exact ⟨rfl, rfl, i + 1, n, rfl, by go_num, by omega, by omega, HW4, HU4⟩
          case measure => simp [intOf]; omega
        · have t3 : ((c : Int) == 43) = false := by simp; omega
          go_wp2_with fail
          go_round
          case rel => exact ⟨rfl, rfl, i + 1, n, rfl, by go_num, by omega, by omega, HW4, HU4⟩
          case measure => simp [intOf]; omega
    · obtain rfl : i = s.size := by omega
      by_cases hn0 : n = 0
      · subst hn0
        go_wp2_with fail
        go_ret2
        exact ⟨⟨s, by have := HUi.out trivial; rw [unp_end (by omega), List.append_nil, List.take_of_length_le (by omega)] at this; exact this, rfl⟩, Below.refl _ _⟩
      · have t1 : ((n : Int) == 0) = false := by simp; omega
        go_wp2_with fail
        have hB0 := Bld.fresh w
        have hL0 := below_alloc (w := w) (.cells #[.pointer none, .slice none 0 0] 49)
        have hG0 : (w.alloc (.cells #[.pointer none, .slice none 0 0] 49)).heap[w.heap.size]? = some (.cells #[.pointer none, .slice none 0 0] 49 (0, 0)) := heap_alloc_new w _
        generalize w.alloc (.cells #[.pointer none, .slice none 0 0] 49) = w0 at hB0 hL0 hG0 ⊢
        obtain ⟨B, hB⟩ : ∃ B, w.heap.size = B := ⟨_, rfl⟩
        rw [hB] at hB0 hL0 hG0 hw3 ⊢
        obtain ⟨m, hm, hml⟩ : ∃ m : Nat, (s.size : Int) - 2 * (n : Int) = (m : Int) ∧ m ≤ 1000000 := ⟨s.size - 2 * n, by omega, by omega⟩
        rw [hm]
        refine (bld_grow hG0 hml).mono ?_
        rintro e w1 ⟨rfl, hB1, hL1⟩
        have HB1 := Lib.hid hB1
        have HL1 := Lib.hid (hL0.trans hL1)
        clear hB0 hL0 hG0 hB1 hL1 HWi HUi hm hml
        go_wp2_with fail
        go_loopw [12] (fun iv W => ∃ (i : Nat) (acc : List Nat), iv = .int .i64 (i : Int) ∧ i ≤ s.size ∧ acc.length ≤ i ∧ Hid (acc ++ unp ((nums s).drop i) = unp (nums s)) ∧ Hid (Wf ((nums s).drop i)) ∧ Hid (Bld B acc W) ∧ Hid (Below B w W)) (fun iv _ => s.size - (intOf iv).toNat)
        case atStart => exact ⟨0, [], rfl, Nat.zero_le _, Nat.le_refl _, Lib.hid rfl, Lib.hid HW.out, HB1, HL1⟩
        case round =>
          obtain ⟨i, acc, rfl, hi2, hacc, HU, HWi, HO, HL⟩ := hrel
          rename World => W
          by_cases hlt2 : i < s.size
          · obtain ⟨c, hc⟩ : ∃ c, (nums s).getD i 0 = c := ⟨_, rfl⟩
            have g0 := at_num hlt2 hc
            have c256 : c < 256 := by rw [← g0]; exact UInt8.toNat_lt _
            by_cases h37 : c = 37
            · subst h37
              obtain ⟨h2, hh1, hh2, hw4⟩ := HWi.out.at_esc (by omega) hc
              have hun := unp_wf_esc HWi.out (by omega) hc
              rw [hnl] at h2
              have HW4 := Lib.hid hw4
              have hi1 : i + 1 < s.size := by omega
              have hi2' : i + 2 < s.size := by omega
              obtain ⟨a1, ha1⟩ : ∃ a, (nums s).getD (i + 1) 0 = a := ⟨_, rfl⟩
              obtain ⟨a2, ha2⟩ : ∃ a, (nums s).getD (i + 2) 0 = a := ⟨_, rfl⟩
              have g1 := at_num hi1 ha1
              have g2 := at_num hi2' ha2
              rw [ha1] at hh1 hun
              rw [ha2] at hh2 hun
              have D1 := Lib.hid (fun W : World => unhex_yes a1 W hh1)
              have D2 := Lib.hid (fun W : World => unhex_yes a2 W hh2)
              have l1 := (hexI_yes hh1).2.2
              have l2 := (hexI_yes hh2).2.2
              obtain ⟨d1, hd1⟩ : ∃ d, hexVal a1 = d := ⟨_, rfl⟩
              obtain ⟨d2, hd2⟩ : ∃ d, hexVal a2 = d := ⟨_, rfl⟩
              rw [hd1] at D1 l1 hun
              rw [hd2] at D2 l2 hun
              have HU3 : Hid ((acc ++ [16 * d1 + d2]) ++ unp ((nums s).drop (i + 3)) = unp (nums s)) := Lib.hid (by rw [← HU.out, hun]; simp)
              have e1 : IntKind.i64.wrap ((i : Int) + 1) = (i : Int) + 1 := by rw [IntKind.wrap_i64]; omega
              have e2 : IntKind.i64.wrap ((i : Int) + 2) = (i : Int) + 2 := by rw [IntKind.wrap_i64]; omega
              have hb1 : (0 : Int) ≤ (i : Int) + 1 ∧ (i : Int) + 1 < (s.size : Int) := by omega
              have hb2 : (0 : Int) ≤ (i : Int) + 2 ∧ (i : Int) + 2 < (s.size : Int) := by omega
              have gg1 : ∀ h, (s[((i : Int) + 1).toNat]'h).toNat = a1 := by
                intro h
                have : ((i : Int) + 1).toNat = i + 1 := by omega
                simp only [this]
                exact g1
              have gg2 : ∀ h, (s[((i : Int) + 2).toNat]'h).toNat = a2 := by
                intro h
                have : ((i : Int) + 2).toNat = i + 2 := by omega
                simp only [this]
                exact g2
              have e5 := or_nib d1 d2 l1 l2
              clear hd1 hd2 ha1 ha2 hh1 hh2 hun hc hw4
              go_wp2_with fail
              go_still_tail 12, (by kernel_rfl)
              still_call (D1.out _)
              repeat still_step
              still_call (D2.out _)
              repeat still_step
              refine wpStill_nil ?_
              change wpList _ _ _ _ _ W.drew
              have HOd := Lib.hid (HO.out.below (Below.refl W.heap.size W).drew)
              have HLd := Lib.hid (HL.out.trans (Below.refl B W).drew)
              generalize W.drew = W2 at HOd HLd ⊢
              rw [Int.mul_comm] at e5
              go_wp2_with (first | (go_at_call 17; refine (bld_byte (16 * d1 + d2) _ e5 HOd.out (by omega)).mono ?_; rintro e w9 ⟨rfl, hq, hl⟩; have HB9 := Lib.hid hq; have HL9 := Lib.hid (HLd.out.trans hl); clear hq hl))
              go_roundw
              case rel => exact ⟨i + 3, acc ++ [16 * d1 + d2], by go_num, by omega, by simp; omega, HU3, HW4, HB9, HL9⟩
              case measure => simp [intOf]; omega
            · have HW2 := Lib.hid (HWi.out.at_raw (by omega) (by rw [hc]; exact h37))
              have HU2 : Hid ((acc ++ [c]) ++ unp ((nums s).drop (i + 1)) = unp (nums s)) := Lib.hid (by rw [← HU.out, unp_wf_raw (t := nums s) (i := i) (by omega) (by rw [hc]; exact h37), hc]; simp)
              have t1 : ((c : Int) == 37) = false := by simp; omega
              clear hc
              by_cases h43 : c = 43
              · subst h43
                go_wp2_with (first | (go_at_call 17; refine (bld_byte 43 _ (by rfl) HO.out (by omega)).mono ?_; rintro e w9 ⟨rfl, hq, hl⟩; have HB9 := Lib.hid hq; have HL9 := Lib.hid (HL.out.trans hl); clear hq hl))
                go_roundw
                case rel => exact ⟨i + 1, acc ++ [43], by go_num, by omega, by simp; omega, HU2, HW2, HB9, HL9⟩
                case measure => simp [intOf]; omega
              · have t3 : ((c : Int) == 43) = false := by simp; omega
                go_wp2_with (first | (go_at_call 17; refine (bld_byte c _ (by rfl) HO.out (by omega)).mono ?_; rintro e w9 ⟨rfl, hq, hl⟩; have HB9 := Lib.hid hq; have HL9 := Lib.hid (HL.out.trans hl); clear hq hl))
                go_roundw
                case rel => exact ⟨i + 1, acc ++ [c], by go_num, by omega, by simp; omega, HU2, HW2, HB9, HL9⟩
                case measure => simp [intOf]; omega
          · obtain rfl : i = s.size := by omega
            obtain ⟨q, hq⟩ := exists_text (unp (nums s)) HLT.out
            have hqa : nums q = acc := by rw [hq, ← HU.out, unp_end (by omega), List.append_nil]
            go_wp2_with (first | (go_at_call 20; refine (bld_text HO.out hqa).mono ?_; rintro e w7 ⟨rfl, hl⟩; have HL7 := Lib.hid (HL.out.trans hl); clear hl))
            go_ret2
            exact ⟨⟨q, hq, rfl⟩, by rw [hB]; exact HL7.out⟩
end Go.Proofs.YtmfbnmjmgpafmaaDoor
