/- FnDataURL (3) at texts that the law does not speak of. -/
import Derived.Test.YtmfbnmjmgpafmaaDoorLawA
namespace Go.Proofs.YtmfbnmjmgpafmaaDoor
open Go.RowKit
set_option linter.unusedVariables false
set_option linter.unusedSimpArgs false
set_option maxRecDepth 1000000 in
theorem law_great (s : ByteArray) (w : World) (h1 : 2147483647 < s.size) : Calls Tryd.prog 3 #[.string s] w fun e w' => e = .returned (.bool true) ∧ Below w.heap.size w w' := by
  have t1 : decide ((2147483647 : Int) < (s.size : Int)) = true := decide_eq_true (by omega)
  go_enter Tryd.func3, Tryd.ntmps3
  go_wp2_with fail
  go_ret
  exact ⟨rfl, Below.refl _ _⟩
set_option maxRecDepth 1000000 in
theorem law_none (s : ByteArray) (w : World) (h1 : ¬ 2147483647 < s.size) (hu : unitsFrom s 0 = none) : Calls Tryd.prog 3 #[.string s] w fun e w' => e = .returned (.bool true) ∧ Below w.heap.size w w' := by
  have t1 : decide ((2147483647 : Int) < (s.size : Int)) = false := decide_eq_false (by omega)
  have C : Calls Tryd.prog 4 #[.string s] w fun e w' => e = .returned (.tuple #[.slice none 0 0, .bool false]) ∧ Below w.heap.size w w' := (units_any s w (by omega)).mono fun e w' h => by
    rcases h.2 with ⟨_, h2⟩ | ⟨l, v, h2, _⟩
    · exact ⟨h2, h.1⟩
    · rw [hu] at h2; cases h2
  clear hu h1
  go_enter Tryd.func3, Tryd.ntmps3
  go_wp2_with (go_at_call 4; refine C.mono ?_; rintro e w1 ⟨rfl, hb⟩)
  go_ret
  exact ⟨rfl, hb⟩
theorem units_good (s : ByteArray) (w : World) (h1 : ¬ 2147483647 < s.size) (hg : Good s 0) : Calls Tryd.prog 4 #[.string s] w fun e w' => ∃ v, e = .returned (.tuple #[v, .bool true]) ∧ Below w.heap.size w w' := by
  obtain ⟨l, hu⟩ := hg
  exact (units_any s w (by omega)).mono fun e w' h => by
    rcases h.2 with ⟨h2, _⟩ | ⟨l2, v, h2, _, h3, _⟩
    · rw [hu] at h2; cases h2
    · exact ⟨v, h3, h.1⟩
set_option maxRecDepth 1000000 in
theorem law_long (s : ByteArray) (w : World) (h1 : ¬ 2147483647 < s.size) (hg : Good s 0) (h3 : 300 < s.size) : Calls Tryd.prog 3 #[.string s] w fun e w' => e = .returned (.bool true) ∧ Below w.heap.size w w' := by
  have t1 : decide ((2147483647 : Int) < (s.size : Int)) = false := decide_eq_false (by omega)
  have t3 : decide ((300 : Int) < (s.size : Int)) = true := decide_eq_true (by omega)
  have HC := Lib.hid (units_good s w h1 hg)
  clear hg h3 h1
  go_enter Tryd.func3, Tryd.ntmps3
  go_wp2_with (go_at_call 4; refine HC.out.mono ?_; rintro e w1 ⟨v, rfl, hb⟩)
  go_ret
  exact ⟨rfl, hb⟩
set_option maxRecDepth 1000000 in
set_option maxHeartbeats 8000000 in
theorem law_bad (s : ByteArray) (w : World) (h3 : ¬ 300 < s.size) (hg : Good s 0) (hf : ¬ Fine s) : Calls Tryd.prog 3 #[.string s] w fun e w' => e = .returned (.bool true) ∧ Below w.heap.size w w' := by
  have t1 : decide ((2147483647 : Int) < (s.size : Int)) = false := decide_eq_false (by omega)
  have t3 : decide ((300 : Int) < (s.size : Int)) = false := decide_eq_false (by omega)
  have HC := Lib.hid (units_good s w (by omega) hg)
  have HF := Lib.hid hf
  clear hg hf
  go_enter Tryd.func3, Tryd.ntmps3
  go_wp2_with (go_at_call 4; refine HC.out.mono ?_; rintro e w1 ⟨v, rfl, hb⟩)
  have HB := Lib.hid hb
  clear hb
  go_loop [37] (fun iv => ∃ i : Nat, i ≤ s.size ∧ iv = .int .i64 (i : Int) ∧ Hid (∀ j, j < i → ((nums s).getD j 0 = 9 ∨ (nums s).getD j 0 = 10 ∨ (nums s).getD j 0 = 13 ∨ 32 ≤ (nums s).getD j 0) ∧ (nums s).getD j 0 ≠ 127)) (fun iv => s.size - (intOf iv).toNat)
  case atStart => exact ⟨0, Nat.zero_le _, rfl, Lib.hid (fun j hj => absurd hj (Nat.not_lt_zero j))⟩
  case round =>
    obtain ⟨i, hi, rfl, HH⟩ := hrel
    by_cases hlt : i < s.size
    · obtain ⟨b, hb⟩ : ∃ b, (nums s).getD i 0 = b := ⟨_, rfl⟩
      have g0 := at_num hlt hb
      by_cases hok : (b = 9 ∨ b = 10 ∨ b = 13 ∨ 32 ≤ b) ∧ b ≠ 127
      · have HH2 : Hid (∀ j, j < i + 1 → ((nums s).getD j 0 = 9 ∨ (nums s).getD j 0 = 10 ∨ (nums s).getD j 0 = 13 ∨ 32 ≤ (nums s).getD j 0) ∧ (nums s).getD j 0 ≠ 127) := Lib.hid (fun j hj => by
          by_cases e : j = i
          · subst e; rw [hb]; exact hok
          · exact HH.out j (by omega))
        have b127 : ((b : Int) == 127) = false := beq_eq_false_iff_ne.2 (by omega)
        have h4 := hok.1
        clear hb hok HH
        rcases h4 with rfl | rfl | rfl | h32
        · go_wp2_with fail
          go_round
          case rel => exact ⟨i + 1, by omega, by go_num, HH2⟩
          case measure => simp [intOf]; omega
        · go_wp2_with fail
          go_round
          case rel => exact ⟨i + 1, by omega, by go_num, HH2⟩
          case measure => simp [intOf]; omega
        · go_wp2_with fail
          go_round
          case rel => exact ⟨i + 1, by omega, by go_num, HH2⟩
          case measure => simp [intOf]; omega
        · have c1 : decide ((b : Int) < 32) = false := decide_eq_false (by omega)
          go_wp2_with fail
          go_round
          case rel => exact ⟨i + 1, by omega, by go_num, HH2⟩
          case measure => simp [intOf]; omega
      · clear hb HH
        by_cases h127 : b = 127
        · subst h127
          go_wp2_with fail
          go_ret
          exact ⟨rfl, HB.out⟩
        · have c1 : decide ((b : Int) < 32) = true := decide_eq_true (by omega)
          have c2 : ((b : Int) != 9) = true := bne_iff_ne.2 (by omega)
          have c3 : ((b : Int) != 10) = true := bne_iff_ne.2 (by omega)
          have c4 : ((b : Int) != 13) = true := bne_iff_ne.2 (by omega)
          clear hok
          go_wp2_with fail
          go_ret
          exact ⟨rfl, HB.out⟩
    · obtain rfl : i = s.size := by omega
      exact absurd HH.out HF.out
end Go.Proofs.YtmfbnmjmgpafmaaDoor
