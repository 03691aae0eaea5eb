/- FnDataURL (3) at texts that it speaks of. -/
import Derived.Test.YtmfbnmjmgpafmaaDoorLawB
namespace Go.Proofs.YtmfbnmjmgpafmaaDoor
open Go.RowKit
set_option linter.unusedVariables false
set_option linter.unusedSimpArgs false
theorem law_head {s p r U q : ByteArray} (h : Urls s p r U q) : ((p.extract 0 14).toList == [100, 97, 116, 97, 58, 116, 101, 120, 116, 47, 99, 115, 115, 44]) = true := by
  have e : p.extract 0 14 = hd14 := nums_inj (by rw [extract_nums, h.p, append_nums]; rfl)
  rw [e]
  decide +kernel
theorem law_rest {s p r U q : ByteArray} (h : Urls s p r U q) : p.extract 14 p.size = r := nums_inj (by
  rw [extract_nums, h.p, append_nums, ByteArray.size_append]
  show (nums r).take (14 + r.size - 14) = nums r
  exact List.take_of_length_le (by rw [nums_len]; omega))
theorem same_list (a b : ByteArray) : (a.toList == b.toList) = decide (a = b) := by
  by_cases h : a = b
  · subst h; simp
  · rw [decide_eq_false h]
    rw [beq_eq_false_iff_ne]
    intro e
    apply h
    rw [Lib.toList_data, Lib.toList_data] at e
    exact ByteArray.ext (Array.toList_inj.1 e)
set_option maxRecDepth 1000000 in
set_option maxHeartbeats 8000000 in
theorem law_good (s p r U q : ByteArray) (w : World) (h3 : ¬ 300 < s.size) (hg : Good s 0) (hf : Fine s) (h : Urls s p r U q) (hT : Lib.Utf8Tabs 0 1 w) (hU : UrlTab 3 w) (hB : 3 < w.heap.size) : Calls Tryd.prog 3 #[.string s] w fun e w' => e = .returned (.bool true) ∧ Below w.heap.size w w' := by
  have t1 : decide ((2147483647 : Int) < (s.size : Int)) = false := decide_eq_false (by omega)
  have t3 : decide ((300 : Int) < (s.size : Int)) = false := decide_eq_false (by omega)
  have C4 := Lib.hid (units_good s w (by omega) hg)
  have C5 := Lib.hid (fun (W : World) (hb : Below w.heap.size w W) => call5 h (by omega) hg hf W (by have := hb.size; omega) (tabs_below hT (by omega) hb))
  have C6 := Lib.hid (fun (W : World) (hb : Below w.heap.size w W) => call6 h (by omega) hg hf W (by have := hb.size; omega) (tabs_below hT (by omega) hb))
  have C7 := Lib.hid (fun (g cap : Nat) (W : World) (hc : Cel g (nums s) W) => call7 h (by omega) g cap W hc)
  have C8 := Lib.hid (fun (W : World) => call8 h (by omega) W)
  have C9 := Lib.hid (fun (hp : ∀ j, j < s.size → (nums s).getD j 0 ≠ 37) (W : World) (hb : Below w.heap.size w W) => call9p h (by omega) hp W (by have := hb.size; omega) (url_below hU hB hb))
  have C9s := Lib.hid (fun (hp : ∀ j, j < s.size → (nums s).getD j 0 ≠ 37) (W : World) (hb : Below w.heap.size w W) => call9s h (by omega) hp W (by have := hb.size; omega) (url_below hU hB hb))
  have HF := Lib.hid hf
  have HH := Lib.hid h
  clear hg hf hT hU h
  go_enter Tryd.func3, Tryd.ntmps3
  go_wp2_with (go_at_call 4; refine C4.out.mono ?_; rintro e w1 ⟨v, rfl, hb⟩)
  have HB1 := Lib.hid hb
  clear hb
  go_loop [37] (fun iv => ∃ i : Nat, i ≤ s.size ∧ iv = .int .i64 (i : Int)) (fun iv => s.size - (intOf iv).toNat)
  case atStart => exact ⟨0, Nat.zero_le _, rfl⟩
  case round =>
    obtain ⟨i, hi, rfl⟩ := hrel
    by_cases hlt : i < s.size
    · obtain ⟨b, hb⟩ : ∃ b, (nums s).getD i 0 = b := ⟨_, rfl⟩
      have g0 := at_num hlt hb
      have hok := HF.out i hlt
      rw [hb] at hok
      have b127 : ((b : Int) == 127) = false := beq_eq_false_iff_ne.2 (by omega)
      have h4 := hok.1
      clear hb hok
      rcases h4 with rfl | rfl | rfl | h32
      · go_wp2_with fail
        go_round
        case rel => exact ⟨i + 1, by omega, by go_num⟩
        case measure => simp [intOf]; omega
      · go_wp2_with fail
        go_round
        case rel => exact ⟨i + 1, by omega, by go_num⟩
        case measure => simp [intOf]; omega
      · go_wp2_with fail
        go_round
        case rel => exact ⟨i + 1, by omega, by go_num⟩
        case measure => simp [intOf]; omega
      · have c1 : decide ((b : Int) < 32) = false := decide_eq_false (by omega)
        go_wp2_with fail
        go_round
        case rel => exact ⟨i + 1, by omega, by go_num⟩
        case measure => simp [intOf]; omega
    · obtain rfl : i = s.size := by omega
      obtain ⟨sv, hsv⟩ : ∃ sv, svOf s p U = sv := ⟨_, rfl⟩
      rw [hsv] at C6 C9s
      have hsz : 14 ≤ p.size ∧ p.size ≤ 1000 ∧ U.size ≤ 2000 := by
        have hps := HH.out.psize
        have hus := HH.out.usize
        have hq1 := HH.out.qsize
        have hr1 := HH.out.rsize
        omega
      obtain ⟨z1, z2, z3⟩ := hsz
      have zq : q.size ≤ 2000 := by have := HH.out.qsize; omega
      have hS := HH.out.sv
      rw [hsv] at hS
      obtain ⟨hS1, hS2, hS3, _⟩ := hS
      have hUe : ((⟨#[100, 97, 116, 97, 58, 116, 101, 120, 116, 47, 99, 115, 115, 59, 98, 97, 115, 101, 54, 52, 44]⟩ : ByteArray) ++ q) = U := HH.out.U.symm
      have d1 : decide ((p.size : Int) < 14) = false := decide_eq_false (by omega)
      have d2 := law_head HH.out
      have d3 : decide (p.size < sv.size) = false := decide_eq_false (by omega)
      have d4 : decide (U.size < sv.size) = false := decide_eq_false (by omega)
      obtain ⟨x1, hx1⟩ : ∃ x, (sv.toList == p.toList) = x := ⟨_, rfl⟩
      obtain ⟨x2, hx2⟩ : ∃ x, (sv.toList == U.toList) = x := ⟨_, rfl⟩
      have hx : x1 = true ∨ (x1 = false ∧ x2 = true) := by
        rw [same_list] at hx1 hx2
        rcases hS1 with e | e
        · left; rw [← hx1, decide_eq_true e]
        · cases x1
          · right; exact ⟨rfl, by rw [← hx2, decide_eq_true e]⟩
          · left; rfl
      clear hS1 hS2 hS3
      go_wp2_with (first
        | (go_at_call 5; refine (C5.out _ HB1.out).mono ?_; rintro e w2 ⟨rfl, hb⟩; have HB2 := Lib.hid (HB1.out.trans (hb.mono HB1.out.size)); clear hb)
        | (go_at_call 6; refine (C6.out _ HB2.out).mono ?_; rintro e w3 ⟨rfl, hb⟩; have HB3 := Lib.hid (HB2.out.trans (hb.mono HB2.out.size)); clear hb))
      obtain ⟨w4, cap, hr, g1, g2, g3, g4⟩ := made_bytes s w3 (by omega)
      have HB4 := Lib.hid (HB3.out.trans (g1.mono HB3.out.size))
      have HG := Lib.hid g2
      rw [hr]
      clear g1 g2 g3 g4 hr
      have hR := law_rest HH.out
      rcases hx with rfl | ⟨rfl, rfl⟩
      all_goals (
        go_wp2_with (go_at_call 7; refine (C7.out _ _ _ HG.out).mono ?_; rintro e w5 ⟨rfl, hw⟩; rw [hw]; clear hw w5)
        clear d1 d2 d3 d4 hx1 hx2 hUe HG HB1 HB2 HB3
        go_loop [111] (fun iv => ∃ i : Nat, i ≤ p.size ∧ iv = .int .i64 (i : Int)) (fun iv => p.size - (intOf iv).toNat)
        case atStart => exact ⟨0, Nat.zero_le _, rfl⟩
        case round =>
          obtain ⟨i, hi2, rfl⟩ := hrel
          by_cases hip : i < p.size
          · obtain ⟨b, hb⟩ : ∃ b, (nums p).getD i 0 = b := ⟨_, rfl⟩
            have g0 := at_num hip hb
            have hpl := HH.out.plain i hip
            rw [hb] at hpl
            have d1 : ((b : Int) == 9) = false := beq_eq_false_iff_ne.2 (by omega)
            have d2 : ((b : Int) == 10) = false := beq_eq_false_iff_ne.2 (by omega)
            have d3 : ((b : Int) == 13) = false := beq_eq_false_iff_ne.2 (by omega)
            have d4 : ((b : Int) == 35) = false := beq_eq_false_iff_ne.2 (by omega)
            clear hb hpl
            go_wp2_with fail
            go_round
            case rel => exact ⟨i + 1, by omega, by go_num⟩
            case measure => simp [intOf]; omega
          · obtain rfl : i = p.size := by omega
            go_wp2_with (go_at_call 8; refine (C8.out _).mono ?_; rintro e w6 ⟨rfl, hb⟩; have HB6 := Lib.hid (HB4.out.trans (hb.mono HB4.out.size)); clear hb)
            go_loop [142] (fun iv => ∃ i : Nat, i ≤ s.size ∧ iv = .int .i64 (i : Int) ∧ Hid (∀ j, j < i → (nums s).getD j 0 ≠ 37)) (fun iv => s.size - (intOf iv).toNat)
            case atStart => exact ⟨0, Nat.zero_le _, rfl, Lib.hid (fun j hj => absurd hj (Nat.not_lt_zero j))⟩
            case round =>
              obtain ⟨i, hi3, rfl, HI⟩ := hrel
              by_cases his : i < s.size
              · obtain ⟨b, hb⟩ : ∃ b, (nums s).getD i 0 = b := ⟨_, rfl⟩
                have g0 := at_num his hb
                by_cases h37 : b = 37
                · subst h37
                  clear hb
                  go_wp2_with fail
                  go_ret
                  exact ⟨rfl, HB6.out⟩
                · have d1 : ((b : Int) == 37) = false := beq_eq_false_iff_ne.2 (by omega)
                  have HI2 : Hid (∀ j, j < i + 1 → (nums s).getD j 0 ≠ 37) := Lib.hid (fun j hj => by
                    by_cases e : j = i
                    · subst e; rw [hb]; exact h37
                    · exact HI.out j (by omega))
                  clear hb h37
                  go_wp2_with fail
                  go_round
                  case rel => exact ⟨i + 1, by omega, by go_num, HI2⟩
                  case measure => simp [intOf]; omega
              · obtain rfl : i = s.size := by omega
                have D9 := Lib.hid (C9.out HI.out)
                have D9s := Lib.hid (C9s.out HI.out)
                clear C9 C9s HI
                go_wp2_with (go_at_call_of 9 p; (with_reducible refine (D9.out _ HB6.out).mono ?_); rintro e w7 ⟨rfl, hb⟩; have HB7 := Lib.hid (HB6.out.trans (hb.mono HB6.out.size)); clear hb)
                go_wp2_with (go_at_call_of 9 sv; (with_reducible refine (D9s.out _ HB7.out).mono ?_); rintro e w8 ⟨rfl, hb⟩; have HB8 := Lib.hid (HB7.out.trans (hb.mono HB7.out.size)); clear hb)
                go_ret
                exact ⟨rfl, HB8.out⟩)
end Go.Proofs.YtmfbnmjmgpafmaaDoor
