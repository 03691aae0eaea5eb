/- EncodeStringAsPercentEscapedDataURL, whole. -/
import Derived.Test.YtmfbnmjmgpafmaaDoorPctL
namespace Go.Proofs.YtmfbnmjmgpafmaaDoor
open Go.RowKit
set_option linter.unusedVariables false
set_option linter.unusedSimpArgs false
theorem below_alloc {w : World} (o : Obj) : Below w.heap.size w (w.alloc o) := (Below.refl w.heap.size w).alloc (Nat.le_refl _) o
theorem trail_more {t : List Nat} {k : Nat} (h : t.getD k 0 = 32) : trail t (k + 1) = trail t k := by rw [trail, if_pos h]
theorem trail_stop {t : List Nat} {k : Nat} (h : t.getD k 0 ≠ 32) : trail t (k + 1) = k + 1 := by rw [trail, if_neg h]
set_option maxRecDepth 1000000 in
set_option maxHeartbeats 16000000 in
theorem percent_any (m s : ByteArray) (W : World) (hm : m.size ≤ 100) (hs : s.size ≤ 300) (hg : Good s 0) (hc : ∀ i, i < s.size → (nums s).getD i 0 = 9 ∨ (nums s).getD i 0 = 10 ∨ (nums s).getD i 0 = 13 ∨ 32 ≤ (nums s).getD i 0) (hW : 2 ≤ W.heap.size) (hT : Lib.Utf8Tabs 0 1 W) :
    Calls Tryd.prog 10 #[.string m, .string s] W fun e w' => (∃ q : ByteArray, nums q = [100, 97, 116, 97, 58] ++ nums m ++ [44] ++ pctFrom (nums s) (trail (nums s) s.size) 0 ∧ e = .returned (.tuple #[.string q, .bool true])) ∧ Below W.heap.size W w' := by
  have HTA := Lib.hid (tail_of s)
  have HLT : Hid (∀ b ∈ [100, 97, 116, 97, 58] ++ nums m ++ [44] ++ pctFrom (nums s) (trail (nums s) s.size) 0, b < 256) := Lib.hid (by
    intro b hb
    simp only [List.mem_append] at hb
    rcases hb with ((hb | hb) | hb) | hb
    · simp at hb; omega
    · exact nums_lt m b hb
    · simp at hb; omega
    · exact (pct_plain (tail_of s) _ 0 (Nat.le_refl _) b hb).2.2.2.2)
  obtain ⟨hd, hhd⟩ : ∃ hd, [100, 97, 116, 97, 58] ++ nums m ++ [44] = hd := ⟨_, rfl⟩
  have HHD : Hid (([] ++ nums { data := #[100, 97, 116, 97, 58] } ++ nums m ++ [44] : List Nat) = hd) := Lib.hid hhd
  have HDD : Hid ([100, 97, 116, 97, 58] ++ nums m ++ [44] = hd) := Lib.hid hhd
  have hml : (nums m).length ≤ 100 := by rw [nums_len]; exact hm
  have hdl : hd.length ≤ 1000 := by rw [← hhd]; simp; omega
  rw [hhd] at HLT
  clear hhd
  go_enter Tryd.func10, Tryd.ntmps10
  go_wp2_with fail
  have hB0 := Bld.fresh W
  have hL0 := below_alloc (w := W) (.cells #[.pointer none, .slice none 0 0] 49)
  generalize W.alloc (.cells #[.pointer none, .slice none 0 0] 49) = w0 at hB0 hL0 ⊢
  generalize hB : W.heap.size = B at hB0 hL0 hW ⊢
  refine (bld_string _ hB0 (by simp) (by decide)).mono ?_
  rintro e w1 ⟨rfl, hB1, hL1⟩
  have HB1 := Lib.hid hB1
  have HL1 := Lib.hid (hL0.trans hL1)
  clear hB0 hL0 hB1 hL1
  have HT := Lib.hid hT
  have HC := Lib.hid hc
  have HG := Lib.hid hg
  clear hT hc hg
  go_wp2_with (first | (go_at_call 17; refine (bld_byte 44 _ (by rfl) HB2.out (by simp [nums]; omega)).mono ?_; rintro e w3 ⟨rfl, hq, hl⟩; have HB3 := Lib.hid hq; have HL3 := Lib.hid (HL2.out.trans hl); clear hq hl; rw [HHD.out] at HB3) | (go_at_call 16; refine (bld_string m HB1.out (by simp [nums]) (by omega)).mono ?_; rintro e w2 ⟨rfl, hq, hl⟩; have HB2 := Lib.hid hq; have HL2 := Lib.hid (HL1.out.trans hl); clear hq hl))
  have HT3 : Hid (Lib.Utf8Tabs 0 1 w3) := Lib.hid (tabs_below HT.out (by omega) HL3.out)
  go_loop [11] (fun iv => ∃ k : Nat, iv = .int .i64 (k : Int) ∧ k ≤ s.size ∧ Hid (trail (nums s) k = trail (nums s) s.size)) (fun iv => (intOf iv).toNat)
  case atStart => exact ⟨s.size, rfl, Nat.le_refl _, Lib.hid rfl⟩
  case round =>
    obtain ⟨k, rfl, hk, HK⟩ := hrel
    rcases Nat.eq_zero_or_pos k with h0 | h0
    · subst h0
      have HK2 : Hid (trail (nums s) s.size = 0) := Lib.hid HK.out.symm
      go_wp2_with fail
      refine pct_loop _ s w3 B (0) hd _ _ _ _ _ _ _ _ _ _ _ _ _ _ _ _ _ _ _ _ _ _ _ _ _ _ _ _ _ _ _ _ _ _ _ _ _ _ _ _ _ _ _ _ _ _ _ _ _ _ _ _ _ _ _ _ _ _ _ _ _ _ _ _ _ _ _ _ _ _ _ _ _ _ _ _ _ _ _ _ _ _ _ _ _ _ _ _ _ _ _ _ _ _ _ _ _ _ _ _ _ _ _ _ _ _ _ _ _ _ _ _ _ _ _ _ _ _ _ _ _ _ _ _ _ _ _ _ _ _ HB3 hW HT3 hdl hs (by rw [← HK2.out]; exact HTA.out) HG.out ?_
      intro acc rs w4
      iterate 88 (intro _)
      intro hP hal HB4 HL4
      rw [← HK2.out] at hP
      have hPA := hP.all
      have hrl := hP.1
      have hpl : (part s rs (s.size - rs)).length ≤ 300 := by rw [part_len (by omega)]; omega
      obtain ⟨q, hq⟩ := exists_text (acc ++ part s rs (s.size - rs)) (by rw [hPA]; exact HLT.out)
      have HL5 := Lib.hid (HL3.out.trans HL4.out)
      by_cases hrs : rs < s.size
      · have HE := Lib.hid (ext_nums s rs s.size)
        have HSZ : Hid ((s.extract rs s.size).size ≤ 1000000) := Lib.hid (by simp; omega)
        go_wp2_with (first | (go_at_call 20; refine (bld_text HB6.out hq).mono ?_; rintro e w7 ⟨rfl, hl⟩; have HL7 := Lib.hid (HL6.out.trans hl); clear hl) | (go_at_call 16; refine (bld_string (s.extract rs s.size) HB4.out (by omega) HSZ.out).mono ?_; rintro e w6 ⟨rfl, hb, hl⟩; have HB6 := Lib.hid hb; rw [HE.out] at HB6; have HL6 := Lib.hid (HL5.out.trans hl); clear hb hl))
        go_ret2
        exact ⟨⟨q, by rw [hq, hPA, ← HDD.out]; rfl, rfl⟩, by rw [hB]; exact HL7.out⟩
      · have t9 : decide ((rs : Int) < (s.size : Int)) = false := by simp; omega
        have hq2 : nums q = acc := by rw [hq, show s.size - rs = 0 by omega, part_zero, List.append_nil]
        go_wp2_with (first | (go_at_call 20; refine (bld_text HB4.out hq2).mono ?_; rintro e w7 ⟨rfl, hl⟩; have HL7 := Lib.hid (HL5.out.trans hl); clear hl))
        go_ret2
        exact ⟨⟨q, by rw [hq, hPA, ← HDD.out]; rfl, rfl⟩, by rw [hB]; exact HL7.out⟩
    · obtain ⟨k, rfl⟩ : ∃ j, k = j + 1 := ⟨k - 1, by omega⟩
      obtain ⟨b, hb⟩ : ∃ b, (nums s).getD k 0 = b := ⟨_, rfl⟩
      have hkl : k < s.size := by omega
      have hbb := HC.out k hkl
      rw [hb] at hbb
      have hbl : b < 256 := by rw [← hb]; exact HTA.out.at k
      have g1 := at_num hkl hb
      have ek : Hid (((k + 1 : Nat) : Int) - 1 = (k : Int)) := Lib.hid (by omega)
      by_cases h32 : b = 32
      · subst h32
        have HK2 := Lib.hid ((trail_more hb).symm.trans HK.out)
        clear hb hbb
        go_wp2_with fail
        go_round
        case rel => exact ⟨k, by go_num, by omega, HK2⟩
        case measure => simp [intOf]
      · have HK2 : Hid (trail (nums s) s.size = k + 1) := Lib.hid (HK.out.symm.trans (trail_stop (by rw [hb]; exact h32)))
        clear hb
        by_cases hbig : 32 < b
        · have t1 : decide ((32 : Int) < (b : Int)) = true := by simp; omega
          go_wp2_with fail
          refine pct_loop _ s w3 B (k + 1) hd _ _ _ _ _ _ _ _ _ _ _ _ _ _ _ _ _ _ _ _ _ _ _ _ _ _ _ _ _ _ _ _ _ _ _ _ _ _ _ _ _ _ _ _ _ _ _ _ _ _ _ _ _ _ _ _ _ _ _ _ _ _ _ _ _ _ _ _ _ _ _ _ _ _ _ _ _ _ _ _ _ _ _ _ _ _ _ _ _ _ _ _ _ _ _ _ _ _ _ _ _ _ _ _ _ _ _ _ _ _ _ _ _ _ _ _ _ _ _ _ _ _ _ _ _ _ _ _ _ _ HB3 hW HT3 hdl hs (by rw [← HK2.out]; exact HTA.out) HG.out ?_
          intro acc rs w4
          iterate 88 (intro _)
          intro hP hal HB4 HL4
          rw [← HK2.out] at hP
          have hPA := hP.all
          have hrl := hP.1
          have hpl : (part s rs (s.size - rs)).length ≤ 300 := by rw [part_len (by omega)]; omega
          obtain ⟨q, hq⟩ := exists_text (acc ++ part s rs (s.size - rs)) (by rw [hPA]; exact HLT.out)
          have HL5 := Lib.hid (HL3.out.trans HL4.out)
          by_cases hrs : rs < s.size
          · have HE := Lib.hid (ext_nums s rs s.size)
            have HSZ : Hid ((s.extract rs s.size).size ≤ 1000000) := Lib.hid (by simp; omega)
            go_wp2_with (first | (go_at_call 20; refine (bld_text HB6.out hq).mono ?_; rintro e w7 ⟨rfl, hl⟩; have HL7 := Lib.hid (HL6.out.trans hl); clear hl) | (go_at_call 16; refine (bld_string (s.extract rs s.size) HB4.out (by omega) HSZ.out).mono ?_; rintro e w6 ⟨rfl, hb, hl⟩; have HB6 := Lib.hid hb; rw [HE.out] at HB6; have HL6 := Lib.hid (HL5.out.trans hl); clear hb hl))
            go_ret2
            exact ⟨⟨q, by rw [hq, hPA, ← HDD.out]; rfl, rfl⟩, by rw [hB]; exact HL7.out⟩
          · have t9 : decide ((rs : Int) < (s.size : Int)) = false := by simp; omega
            have hq2 : nums q = acc := by rw [hq, show s.size - rs = 0 by omega, part_zero, List.append_nil]
            go_wp2_with (first | (go_at_call 20; refine (bld_text HB4.out hq2).mono ?_; rintro e w7 ⟨rfl, hl⟩; have HL7 := Lib.hid (HL5.out.trans hl); clear hl))
            go_ret2
            exact ⟨⟨q, by rw [hq, hPA, ← HDD.out]; rfl, rfl⟩, by rw [hB]; exact HL7.out⟩
        · rcases (show b = 9 ∨ b = 10 ∨ b = 13 by omega) with rfl | rfl | rfl
          · go_wp2_with fail
            refine pct_loop _ s w3 B (k + 1) hd _ _ _ _ _ _ _ _ _ _ _ _ _ _ _ _ _ _ _ _ _ _ _ _ _ _ _ _ _ _ _ _ _ _ _ _ _ _ _ _ _ _ _ _ _ _ _ _ _ _ _ _ _ _ _ _ _ _ _ _ _ _ _ _ _ _ _ _ _ _ _ _ _ _ _ _ _ _ _ _ _ _ _ _ _ _ _ _ _ _ _ _ _ _ _ _ _ _ _ _ _ _ _ _ _ _ _ _ _ _ _ _ _ _ _ _ _ _ _ _ _ _ _ _ _ _ _ _ _ _ HB3 hW HT3 hdl hs (by rw [← HK2.out]; exact HTA.out) HG.out ?_
            intro acc rs w4
            iterate 88 (intro _)
            intro hP hal HB4 HL4
            rw [← HK2.out] at hP
            have hPA := hP.all
            have hrl := hP.1
            have hpl : (part s rs (s.size - rs)).length ≤ 300 := by rw [part_len (by omega)]; omega
            obtain ⟨q, hq⟩ := exists_text (acc ++ part s rs (s.size - rs)) (by rw [hPA]; exact HLT.out)
            have HL5 := Lib.hid (HL3.out.trans HL4.out)
            by_cases hrs : rs < s.size
            · have HE := Lib.hid (ext_nums s rs s.size)
              have HSZ : Hid ((s.extract rs s.size).size ≤ 1000000) := Lib.hid (by simp; omega)
              go_wp2_with (first | (go_at_call 20; refine (bld_text HB6.out hq).mono ?_; rintro e w7 ⟨rfl, hl⟩; have HL7 := Lib.hid (HL6.out.trans hl); clear hl) | (go_at_call 16; refine (bld_string (s.extract rs s.size) HB4.out (by omega) HSZ.out).mono ?_; rintro e w6 ⟨rfl, hb, hl⟩; have HB6 := Lib.hid hb; rw [HE.out] at HB6; have HL6 := Lib.hid (HL5.out.trans hl); clear hb hl))
              go_ret2
              exact ⟨⟨q, by rw [hq, hPA, ← HDD.out]; rfl, rfl⟩, by rw [hB]; exact HL7.out⟩
            · have t9 : decide ((rs : Int) < (s.size : Int)) = false := by simp; omega
              have hq2 : nums q = acc := by rw [hq, show s.size - rs = 0 by omega, part_zero, List.append_nil]
              go_wp2_with (first | (go_at_call 20; refine (bld_text HB4.out hq2).mono ?_; rintro e w7 ⟨rfl, hl⟩; have HL7 := Lib.hid (HL5.out.trans hl); clear hl))
              go_ret2
              exact ⟨⟨q, by rw [hq, hPA, ← HDD.out]; rfl, rfl⟩, by rw [hB]; exact HL7.out⟩
          · go_wp2_with fail
            refine pct_loop _ s w3 B (k + 1) hd _ _ _ _ _ _ _ _ _ _ _ _ _ _ _ _ _ _ _ _ _ _ _ _ _ _ _ _ _ _ _ _ _ _ _ _ _ _ _ _ _ _ _ _ _ _ _ _ _ _ _ _ _ _ _ _ _ _ _ _ _ _ _ _ _ _ _ _ _ _ _ _ _ _ _ _ _ _ _ _ _ _ _ _ _ _ _ _ _ _ _ _ _ _ _ _ _ _ _ _ _ _ _ _ _ _ _ _ _ _ _ _ _ _ _ _ _ _ _ _ _ _ _ _ _ _ _ _ _ _ HB3 hW HT3 hdl hs (by rw [← HK2.out]; exact HTA.out) HG.out ?_
            intro acc rs w4
            iterate 88 (intro _)
            intro hP hal HB4 HL4
            rw [← HK2.out] at hP
            have hPA := hP.all
            have hrl := hP.1
            have hpl : (part s rs (s.size - rs)).length ≤ 300 := by rw [part_len (by omega)]; omega
            obtain ⟨q, hq⟩ := exists_text (acc ++ part s rs (s.size - rs)) (by rw [hPA]; exact HLT.out)
            have HL5 := Lib.hid (HL3.out.trans HL4.out)
            by_cases hrs : rs < s.size
            · have HE := Lib.hid (ext_nums s rs s.size)
              have HSZ : Hid ((s.extract rs s.size).size ≤ 1000000) := Lib.hid (by simp; omega)
              go_wp2_with (first | (go_at_call 20; refine (bld_text HB6.out hq).mono ?_; rintro e w7 ⟨rfl, hl⟩; have HL7 := Lib.hid (HL6.out.trans hl); clear hl) | (go_at_call 16; refine (bld_string (s.extract rs s.size) HB4.out (by omega) HSZ.out).mono ?_; rintro e w6 ⟨rfl, hb, hl⟩; have HB6 := Lib.hid hb; rw [HE.out] at HB6; have HL6 := Lib.hid (HL5.out.trans hl); clear hb hl))
              go_ret2
              exact ⟨⟨q, by rw [hq, hPA, ← HDD.out]; rfl, rfl⟩, by rw [hB]; exact HL7.out⟩
            · have t9 : decide ((rs : Int) < (s.size : Int)) = false := by simp; omega
              have hq2 : nums q = acc := by rw [hq, show s.size - rs = 0 by omega, part_zero, List.append_nil]
              go_wp2_with (first | (go_at_call 20; refine (bld_text HB4.out hq2).mono ?_; rintro e w7 ⟨rfl, hl⟩; have HL7 := Lib.hid (HL5.out.trans hl); clear hl))
              go_ret2
              exact ⟨⟨q, by rw [hq, hPA, ← HDD.out]; rfl, rfl⟩, by rw [hB]; exact HL7.out⟩
          · go_wp2_with fail
            refine pct_loop _ s w3 B (k + 1) hd _ _ _ _ _ _ _ _ _ _ _ _ _ _ _ _ _ _ _ _ _ _ _ _ _ _ _ _ _ _ _ _ _ _ _ _ _ _ _ _ _ _ _ _ _ _ _ _ _ _ _ _ _ _ _ _ _ _ _ _ _ _ _ _ _ _ _ _ _ _ _ _ _ _ _ _ _ _ _ _ _ _ _ _ _ _ _ _ _ _ _ _ _ _ _ _ _ _ _ _ _ _ _ _ _ _ _ _ _ _ _ _ _ _ _ _ _ _ _ _ _ _ _ _ _ _ _ _ _ _ HB3 hW HT3 hdl hs (by rw [← HK2.out]; exact HTA.out) HG.out ?_
            intro acc rs w4
            iterate 88 (intro _)
            intro hP hal HB4 HL4
            rw [← HK2.out] at hP
            have hPA := hP.all
            have hrl := hP.1
            have hpl : (part s rs (s.size - rs)).length ≤ 300 := by rw [part_len (by omega)]; omega
            obtain ⟨q, hq⟩ := exists_text (acc ++ part s rs (s.size - rs)) (by rw [hPA]; exact HLT.out)
            have HL5 := Lib.hid (HL3.out.trans HL4.out)
            by_cases hrs : rs < s.size
            · have HE := Lib.hid (ext_nums s rs s.size)
              have HSZ : Hid ((s.extract rs s.size).size ≤ 1000000) := Lib.hid (by simp; omega)
              go_wp2_with (first | (go_at_call 20; refine (bld_text HB6.out hq).mono ?_; rintro e w7 ⟨rfl, hl⟩; have HL7 := Lib.hid (HL6.out.trans hl); clear hl) | (go_at_call 16; refine (bld_string (s.extract rs s.size) HB4.out (by omega) HSZ.out).mono ?_; rintro e w6 ⟨rfl, hb, hl⟩; have HB6 := Lib.hid hb; rw [HE.out] at HB6; have HL6 := Lib.hid (HL5.out.trans hl); clear hb hl))
              go_ret2
              exact ⟨⟨q, by rw [hq, hPA, ← HDD.out]; rfl, rfl⟩, by rw [hB]; exact HL7.out⟩
            · have t9 : decide ((rs : Int) < (s.size : Int)) = false := by simp; omega
              have hq2 : nums q = acc := by rw [hq, show s.size - rs = 0 by omega, part_zero, List.append_nil]
              go_wp2_with (first | (go_at_call 20; refine (bld_text HB4.out hq2).mono ?_; rintro e w7 ⟨rfl, hl⟩; have HL7 := Lib.hid (HL5.out.trans hl); clear hl))
              go_ret2
              exact ⟨⟨q, by rw [hq, hPA, ← HDD.out]; rfl, rfl⟩, by rw [hB]; exact HL7.out⟩
end Go.Proofs.YtmfbnmjmgpafmaaDoor
