/- FnGlobbed holds for every parts and wild: no condition. -/
import Derived.Test.YtfpfpdjnmfiffaaGlobM
import Derived.ProofKit
import Derived.OpenShut
import Derived.ShutString
import Derived.ChangeOld
import Derived.SliceStrings
import Derived.Deep.QuietTactic
import Derived.BigQuiet
namespace Go.Proofs.Ytfpfpdjnmfiffaa.fnGlobbed
open Go.ChangeShapes Go.WideShapes Go.ChangeAt Go.RowKit
open Go.ChangeMaps (open_string shut_string)
set_option linter.unusedVariables false
set_option linter.unusedSimpArgs false

/-- The text that is built ahead of place k. -/
def At (ss : List ByteArray) (k : Nat) (T : ByteArray) : Prop := T.data.toList = textOf ((marked ss).take k)

theorem step42 {p : ByteArray} {j : Nat} (h : ∀ m (hm : m < p.size), m < j → (p[m]'hm).toNat ≠ 42) (hj : j < p.size) (h2 : (p[j]'hj).toNat ≠ 42) : ∀ m (hm : m < p.size), m < j + 1 → (p[m]'hm).toNat ≠ 42 := by
  intro m hm hmj
  rcases Nat.lt_or_ge m j with h3 | h3
  · exact h m hm h3
  · obtain rfl : m = j := by omega
    exact h2

theorem at_size {ss : List ByteArray} {k : Nat} {T : ByteArray} (h : At ss k T) (hk : k ≤ ss.length) (hc : Checked ss k) : T.size ≤ 31 * k := by
  have h1 := textOf_small ss k hk hc
  rw [← h, len_list] at h1
  exact h1
theorem at_star {ss : List ByteArray} {k : Nat} {T p : ByteArray} (h : At ss k T) (hk : k < ss.length) (hp : p = ss[k]) (h1 : k + 1 < ss.length) : At ss (k + 1) (T ++ p ++ ⟨#[42]⟩) := by
  have hm : k < (marked ss).length := by rw [marked_length]; exact hk
  unfold At at h ⊢
  rw [textOf_take _ _ hm, ← h, marked_get ss k hk hm, ← hp]
  simp [show ¬ (k + 1 = ss.length) by omega]
theorem at_last {ss : List ByteArray} {k : Nat} {T p : ByteArray} (h : At ss k T) (hk : k < ss.length) (hp : p = ss[k]) (h1 : k + 1 = ss.length) : At ss (k + 1) (T ++ p) := by
  have hm : k < (marked ss).length := by rw [marked_length]; exact hk
  unfold At at h ⊢
  rw [textOf_take _ _ hm, ← h, marked_get ss k hk hm, ← hp]
  simp [h1]
theorem check_step {ss : List ByteArray} {k : Nat} {p : ByteArray} (h : Checked ss k) (hk : k < ss.length) (hp : p = ss[k]) (h30 : 0 < p.size → p.size ≤ 30) (h42 : ∀ m (hm : m < p.size), m < p.size → (p[m]'hm).toNat ≠ 42) (h0 : 0 < k → k + 1 < ss.length → 0 < p.size) : Checked ss (k + 1) := by
  subst hp
  refine h.step hk ?_ ?_ h0
  · rcases Nat.eq_zero_or_pos ss[k].size with h1 | h1
    · omega
    · exact h30 h1
  · intro hmem
    obtain ⟨m, hm, he⟩ := List.mem_iff_getElem.1 hmem
    have hm' : m < ss[k].size := by simpa using hm
    refine h42 m hm' hm' ?_
    have : ss[k][m] = 42 := he
    rw [this]; rfl

set_option maxRecDepth 100000 in
set_option maxHeartbeats 4000000 in
theorem main (b off cap n : Nat) (a2 : Option Addr) (n2 cap2 : Nat) (ss : List ByteArray) (w : World) (hn : n ≤ 10) (hn0 : 0 < n) (hn2 : n2 + 1 = n) (hl : ss.length = n) (hlt : b < w.heap.size) (hc : ∀ i (h : i < ss.length), w.cell? ⟨b, off + i, none⟩ = some (.string (ss[i]'h))) (hfit : ∀ s ∈ ss, s.size ≤ 9223372036854775807)
    (C9 : Calls Try.prog 9 #[.slice (some ⟨b, off, none⟩) n cap] w fun e w' => e = .returned (.bool true) ∧ w = w') :
    Calls Try.prog 8 #[.slice (some ⟨b, off, none⟩) n cap, .slice a2 n2 cap2] w fun e w' => e = .returned (.bool true) ∧ Below w.heap.size w w' := by
  have HC := Lib.hid hc
  have HF := Lib.hid hfit
  have HL := Lib.hid hl
  have t1 : ((n : Int) == 0) = false := by simp; omega
  have t2 : decide ((10 : Int) < (n : Int)) = false := by simp; omega
  have t3 : decide ((2147483647 : Int) < (n2 : Int)) = false := by simp; omega
  have t4 : ((n2 : Int) == (n : Int) - 1) = true := by simp; omega
  clear hc hfit hl
  go_enter Try.func8, Try.ntmps8
  go_wp2_with (go_at_call 9; refine C9.mono ?_; rintro e w1 ⟨rfl, rfl⟩)
  clear C9 t1 t2 t3 t4
  go_loop [5, 39] (fun t i => ∃ (k : Nat) (T : ByteArray), k ≤ n ∧ i = .int .i64 k ∧ t = .string T ∧ T.size ≤ 400 ∧ Hid (At ss k T) ∧ Hid (Checked ss k)) (fun _ i => n - (intOf i).toNat)
  case atStart => exact ⟨0, _, Nat.zero_le _, rfl, rfl, by decide, by simp [Hid, At, textOf], fun i hi h => by omega⟩
  case round =>
    obtain ⟨k, T, hk, rfl, rfl, hT, HA, HK⟩ := hrel
    by_cases hkn : k < n
    · have hks : k < ss.length := by rw [HL.out]; exact hkn
      have c1 := HC.out k hks
      have hps := HF.out (ss[k]) (List.getElem_mem _)
      obtain ⟨p, hp⟩ : ∃ p, p = ss[k] := ⟨_, rfl⟩
      rw [← hp] at c1 hps
      have HP := Lib.hid hp
      clear hp
      by_cases he : p.size = 0
      · obtain rfl : p = ⟨#[]⟩ := ext_list (List.eq_nil_of_length_eq_zero (by rw [len_list]; exact he))
        have te : (⟨#[]⟩ : ByteArray).toList.isEmpty = true := by rw [Lib.toList_data]; rfl
        by_cases hin : 0 < k ∧ k + 1 < n
        · have f1 : decide ((0 : Int) < (k : Int)) = true := by simp; omega
          have f2 : decide ((k : Int) < (n : Int) - 1) = true := by simp; omega
          go_wp2_with fail
          go_ret
          exact ⟨rfl, Below.refl _ _⟩
        · have HK2 := Lib.hid (check_step HK.out hks HP.out (fun h => absurd h (by decide)) (fun m hm => absurd hm (Nat.not_lt_zero m)) (fun h1 h2 => absurd ⟨h1, by rw [HL.out] at h2; exact h2⟩ hin))
          by_cases h0 : 0 < k
          · have f1 : decide ((0 : Int) < (k : Int)) = true := by simp; omega
            have f2 : decide ((k : Int) < (n : Int) - 1) = false := by simp; omega
            have g1 : decide ((k : Int) < (n2 : Int)) = false := by simp; omega
            have HA2 := Lib.hid (at_last HA.out hks HP.out (by rw [HL.out]; omega))
            have hT3 := at_size HA2.out (by rw [HL.out]; omega) HK2.out
            have hT2 := at_size HA.out (by rw [HL.out]; exact hk) HK.out
            go_wp2_with fail
            go_loop [59] (fun i => i = .int .i64 0) (fun _ => 0)
            case atStart => rfl
            case round =>
              subst hrel
              go_wp2
              go_round
              case rel =>
                refine ⟨_, _, _, _, _, _, ?_, rfl, rfl, rfl, rfl, rfl, rfl⟩
                exact ⟨k + 1, by omega, by go_num, _, rfl, by omega, HA2, HK2⟩
              case measure => simp [intOf]; omega
          · have f1 : decide ((0 : Int) < (k : Int)) = false := by simp; omega
            by_cases hlast : k + 1 < n
            · have g1 : decide ((k : Int) < (n2 : Int)) = true := by simp; omega
              have HA2 := Lib.hid (at_star HA.out hks HP.out (by rw [HL.out]; omega))
              have hT3 := at_size HA2.out (by rw [HL.out]; omega) HK2.out
              have hT2 := at_size HA.out (by rw [HL.out]; exact hk) HK.out
              go_wp2_with fail
              go_loop [59] (fun i => i = .int .i64 0) (fun _ => 0)
              case atStart => rfl
              case round =>
                subst hrel
                go_wp2
                go_round
                case rel =>
                  refine ⟨_, _, _, _, _, _, ?_, rfl, rfl, rfl, rfl, rfl, rfl⟩
                  exact ⟨k + 1, by omega, by go_num, _, rfl, by omega, HA2, HK2⟩
                case measure => simp [intOf]; omega
            · have g1 : decide ((k : Int) < (n2 : Int)) = false := by simp; omega
              have HA2 := Lib.hid (at_last HA.out hks HP.out (by rw [HL.out]; omega))
              have hT3 := at_size HA2.out (by rw [HL.out]; omega) HK2.out
              have hT2 := at_size HA.out (by rw [HL.out]; exact hk) HK.out
              go_wp2_with fail
              go_loop [59] (fun i => i = .int .i64 0) (fun _ => 0)
              case atStart => rfl
              case round =>
                subst hrel
                go_wp2
                go_round
                case rel =>
                  refine ⟨_, _, _, _, _, _, ?_, rfl, rfl, rfl, rfl, rfl, rfl⟩
                  exact ⟨k + 1, by omega, by go_num, _, rfl, by omega, HA2, HK2⟩
                case measure => simp [intOf]; omega
      · have te := ne_empty (W := p) (by omega)
        go_wp2_with fail
        go_loop [59] (fun i => ∃ j : Nat, j ≤ p.size ∧ i = .int .i64 j ∧ Hid (0 < j → p.size ≤ 30) ∧ Hid (∀ m (hm : m < p.size), m < j → (p[m]'hm).toNat ≠ 42)) (fun i => p.size - (intOf i).toNat)
        case atStart => exact ⟨0, Nat.zero_le _, rfl, fun h => absurd h (by decide), fun m hm h => by omega⟩
        case round =>
          obtain ⟨j, hj, rfl, H30, H42⟩ := hrel
          by_cases hjp : j < p.size
          · obtain ⟨x, hx⟩ : ∃ x, (p[j]'hjp).toNat = x := ⟨_, rfl⟩
            have hx2 : x < 256 := by rw [← hx]; exact UInt8.toNat_lt _
            cases hl30 : decide (30 < p.size) with
            | true =>
              have s1 : decide ((30 : Int) < (p.size : Int)) = true := by simp at hl30 ⊢; omega
              by_cases q1 : x = 46
              · subst q1
                go_wp2_with fail
                go_ret
                exact ⟨rfl, Below.refl _ _⟩
              · have f1 : ((x : Int) == 46) = false := by simp; omega
                by_cases q2 : x = 47
                · subst q2
                  go_wp2_with fail
                  go_ret
                  exact ⟨rfl, Below.refl _ _⟩
                · have f2 : ((x : Int) == 47) = false := by simp; omega
                  by_cases q3 : x < 97
                  · have f3 : decide ((x : Int) < 97) = true := by simp; omega
                    go_wp2_with fail
                    go_ret
                    exact ⟨rfl, Below.refl _ _⟩
                  · have f3 : decide ((x : Int) < 97) = false := by simp; omega
                    by_cases q4 : 122 < x
                    · have f4 : decide ((122 : Int) < (x : Int)) = true := by simp; omega
                      go_wp2_with fail
                      go_ret
                      exact ⟨rfl, Below.refl _ _⟩
                    · have f4 : decide ((122 : Int) < (x : Int)) = false := by simp; omega
                      go_wp2_with fail
                      go_ret
                      exact ⟨rfl, Below.refl _ _⟩
            | false =>
              have s1 : decide ((30 : Int) < (p.size : Int)) = false := by simp at hl30 ⊢; omega
              by_cases q1 : x = 46
              · subst q1
                have H42 := Lib.hid (step42 H42.out hjp (by rw [hx]; omega))
                go_wp2_with fail
                go_round
                case rel => exact ⟨j + 1, by omega, by go_num, fun _ => by simp at hl30; exact hl30, H42⟩
                case measure => simp [intOf]; omega
              · have f1 : ((x : Int) == 46) = false := by simp; omega
                by_cases q2 : x = 47
                · subst q2
                  have H42 := Lib.hid (step42 H42.out hjp (by rw [hx]; omega))
                  go_wp2_with fail
                  go_round
                  case rel => exact ⟨j + 1, by omega, by go_num, fun _ => by simp at hl30; exact hl30, H42⟩
                  case measure => simp [intOf]; omega
                · have f2 : ((x : Int) == 47) = false := by simp; omega
                  by_cases q3 : x < 97
                  · have f3 : decide ((x : Int) < 97) = true := by simp; omega
                    go_wp2_with fail
                    go_ret
                    exact ⟨rfl, Below.refl _ _⟩
                  · have f3 : decide ((x : Int) < 97) = false := by simp; omega
                    by_cases q4 : 122 < x
                    · have f4 : decide ((122 : Int) < (x : Int)) = true := by simp; omega
                      go_wp2_with fail
                      go_ret
                      exact ⟨rfl, Below.refl _ _⟩
                    · have f4 : decide ((122 : Int) < (x : Int)) = false := by simp; omega
                      have H42 := Lib.hid (step42 H42.out hjp (by rw [hx]; omega))
                      go_wp2_with fail
                      go_round
                      case rel => exact ⟨j + 1, by omega, by go_num, fun _ => by simp at hl30; exact hl30, H42⟩
                      case measure => simp [intOf]; omega
          · obtain rfl : j = p.size := by omega
            have HK2 := Lib.hid (check_step HK.out hks HP.out H30.out H42.out (fun _ _ => by omega))
            have hT2 := at_size HA.out (by rw [HL.out]; exact hk) HK.out
            have hp30 := H30.out (by omega)
            by_cases hlast : k + 1 < n
            · have g1 : decide ((k : Int) < (n2 : Int)) = true := by simp; omega
              have HA2 := Lib.hid (at_star HA.out hks HP.out (by rw [HL.out]; exact hlast))
              have hT3 := at_size HA2.out (by rw [HL.out]; omega) HK2.out
              clear c1
              go_wp2
              go_round
              case rel =>
                refine ⟨_, _, _, _, _, _, ?_, rfl, rfl, rfl, rfl, rfl, rfl⟩
                exact ⟨k + 1, by omega, by go_num, _, rfl, by omega, HA2, HK2⟩
              case measure => simp [intOf]; omega
            · have g1 : decide ((k : Int) < (n2 : Int)) = false := by simp; omega
              have HA2 := Lib.hid (at_last HA.out hks HP.out (by rw [HL.out]; omega))
              have hT3 := at_size HA2.out (by rw [HL.out]; omega) HK2.out
              clear c1
              go_wp2
              go_round
              case rel =>
                refine ⟨_, _, _, _, _, _, ?_, rfl, rfl, rfl, rfl, rfl, rfl⟩
                exact ⟨k + 1, by omega, by go_num, _, rfl, by omega, HA2, HK2⟩
              case measure => simp [intOf]; omega
    · obtain rfl : k = n := by omega
      have H1 := HA.out
      unfold At at H1
      rw [List.take_of_length_le (by rw [marked_length, HL.out]; exact Nat.le_refl _)] at H1
      have hne : ss ≠ [] := by intro e; have := HL.out; rw [e] at this; simp at this; omega
      have HLeft := checked_left (by rw [HL.out]; exact HK.out) hne H1
      have hT2 := at_size HA.out (by rw [HL.out]; exact hk) HK.out
      have hml : (marked ss).length = k := by rw [marked_length, HL.out]
      have C17 := globbed_any ss (marked ss) rfl (marked_length ss) T w HLeft (by omega) (by rw [HL.out]; omega) (by rw [HL.out]; exact hn0) (fun x hx => by have := marked_01 ss x hx; omega)
      rw [HL.out] at C17
      have C18 := fun g cap w hg h => text_any (marked ss) k hml (by omega) hn0 g cap w hg h (marked_01 ss) (by rw [← H1, len_list]; omega)
      rw [← H1, show (⟨T.data.toList.toArray⟩ : ByteArray) = T from ext_list (by simp)] at C18
      have HT := Lib.hid C18
      have H17 := Lib.hid C17
      clear C18 C17 HLeft hne H1
      have hn9 : k ≤ 9223372036854775807 := by omega
      go_wp2_with (first | (go_at_call 17; refine H17.out.mono ?_; rintro e w1 ⟨g, cap3, rfl, hown, hg, hb1⟩; have HO := Lib.hid hown; clear hown; have C18 := Lib.hid (HT.out g cap3 w1 hg (fun k hk => ⟨row_cell HO.out (pcells_at _ k hk).1, row_cell HO.out (pcells_at _ k hk).2⟩))) | (go_at_call 18; refine C18.out.mono ?_; rintro e w2 ⟨rfl, hb2⟩))
      have HM := Lib.hid hml
      clear hml C18 HT H17
      go_loopw [115] (fun i wr => ∃ j : Nat, j ≤ k ∧ i = .int .i64 j ∧ Below w1.heap.size w1 wr) (fun i _ => k - (intOf i).toNat)
      case atStart => exact ⟨0, Nat.zero_le _, rfl, hb2⟩
      case round =>
        obtain ⟨j, hj, rfl, hb⟩ := hrel
        by_cases hjk : j < k
        · have hjs : j < ss.length := by rw [HL.out]; exact hjk
          have hjm : j < (marked ss).length := by rw [HM.out]; exact hjk
          obtain ⟨g1, g2⟩ := pcells_at (marked ss) j hjm
          rw [marked_get ss j hjs hjm] at g1 g2
          obtain ⟨p, hp⟩ : ∃ p, p = ss[j] := ⟨_, rfl⟩
          have c0 := ((hb1.trans (hb.mono hb1.size)).cell (p := ⟨b, off + j, none⟩) hlt).trans (HC.out j hjs)
          rw [← hp] at c0
          dsimp only at g1 g2
          rw [← hp] at g1
          have c1 := (hb.cell (p := ⟨g, j * 2, none⟩) hg).trans (row_cell HO.out g1)
          have c2 := (hb.cell (p := ⟨g, j * 2 + 1, none⟩) hg).trans (row_cell HO.out g2)
          have hbw : b < wr.heap.size := Nat.lt_of_lt_of_le hlt (Nat.le_trans hb1.size hb.size)
          clear hp g1 g2
          by_cases hlast : j + 1 = k
          · have g5 : ((j : Int) == (k : Int) - 1) = true := by simp; omega
            rw [HL.out, if_pos hlast] at c2
            go_wp2_with fail
            have d0 := ((((Below.refl _ wr).alloc (Nat.le_refl _) (.cells #[.string p, .int .i64 0] 48)).cell (p := ⟨b, off + j, none⟩) hbw)).trans c0
            have d1 : (wr.alloc (.cells #[.string p, .int .i64 0] 48)).cell? ⟨wr.heap.size, 0, none⟩ = some (.string p) := two_new wr (.string p) (.int .i64 0) 48 0 _ rfl
            have d2 : (wr.alloc (.cells #[.string p, .int .i64 0] 48)).cell? ⟨wr.heap.size, 1, none⟩ = some (.int .i64 0) := two_new wr (.string p) (.int .i64 0) 48 1 _ rfl
            have hbb := hb.alloc hb.size (.cells #[.string p, .int .i64 0] 48)
            generalize wr.alloc (.cells #[.string p, .int .i64 0] 48) = W at d0 d1 d2 hbb ⊢
            go_quiet (fail)
            go_wp2
            go_roundw
            case rel => exact ⟨j + 1, by omega, by simp, hbb.trans (Joins.below_draws _ _ _)⟩
            case measure => simp [intOf]; omega
          · have g5 : ((j : Int) == (k : Int) - 1) = false := by simp; omega
            rw [HL.out, if_neg hlast] at c2
            go_wp2_with fail
            have d0 := ((((Below.refl _ wr).alloc (Nat.le_refl _) (.cells #[.string p, .int .i64 1] 48)).cell (p := ⟨b, off + j, none⟩) hbw)).trans c0
            have d1 : (wr.alloc (.cells #[.string p, .int .i64 1] 48)).cell? ⟨wr.heap.size, 0, none⟩ = some (.string p) := two_new wr (.string p) (.int .i64 1) 48 0 _ rfl
            have d2 : (wr.alloc (.cells #[.string p, .int .i64 1] 48)).cell? ⟨wr.heap.size, 1, none⟩ = some (.int .i64 1) := two_new wr (.string p) (.int .i64 1) 48 1 _ rfl
            have hbb := hb.alloc hb.size (.cells #[.string p, .int .i64 1] 48)
            generalize wr.alloc (.cells #[.string p, .int .i64 1] 48) = W at d0 d1 d2 hbb ⊢
            go_quiet (fail)
            go_wp2
            go_roundw
            case rel => exact ⟨j + 1, by omega, by simp, hbb.trans (Joins.below_draws _ _ _)⟩
            case measure => simp [intOf]; omega
        · go_wp2
          go_ret
          exact ⟨rfl, hb1.trans (hb.mono hb1.size)⟩

set_option maxRecDepth 100000 in
set_option maxHeartbeats 1000000 in
theorem e_fits (a : Option Addr) (n cap : Nat) (a2 : Option Addr) (n2 cap2 : Nat) (ss : List ByteArray) (w : World) (hn : n ≤ 9223372036854775807) (hn2 : n2 ≤ 9223372036854775807) 
    (C9 : Calls Try.prog 9 #[.slice a n cap] w fun e w' => e = .returned (.bool false) ∧ w = w') :
    Calls Try.prog 8 #[.slice a n cap, .slice a2 n2 cap2] w fun e w' => e = .returned (.bool true) ∧ Below w.heap.size w w' := by
  skip
  go_enter Try.func8, Try.ntmps8
  go_wp2_with (go_at_call 9; refine C9.mono ?_; rintro e w1 ⟨rfl, rfl⟩)
  go_ret
  exact ⟨rfl, Below.refl _ _⟩

set_option maxRecDepth 100000 in
set_option maxHeartbeats 1000000 in
theorem e_wild (a : Option Addr) (n cap : Nat) (a2 : Option Addr) (n2 cap2 : Nat) (ss : List ByteArray) (w : World) (hn : n ≤ 9223372036854775807) (hn2 : n2 ≤ 9223372036854775807) (h1 : 2147483647 < n2)
    (C9 : Calls Try.prog 9 #[.slice a n cap] w fun e w' => e = .returned (.bool true) ∧ w = w') :
    Calls Try.prog 8 #[.slice a n cap, .slice a2 n2 cap2] w fun e w' => e = .returned (.bool true) ∧ Below w.heap.size w w' := by
  have t3 : decide ((2147483647 : Int) < (n2 : Int)) = true := by simp; omega
  go_enter Try.func8, Try.ntmps8
  go_wp2_with (go_at_call 9; refine C9.mono ?_; rintro e w1 ⟨rfl, rfl⟩)
  go_ret
  exact ⟨rfl, Below.refl _ _⟩

set_option maxRecDepth 100000 in
set_option maxHeartbeats 1000000 in
theorem e_zero (a : Option Addr) (n cap : Nat) (a2 : Option Addr) (n2 cap2 : Nat) (ss : List ByteArray) (w : World) (hn : n ≤ 9223372036854775807) (hn2 : n2 ≤ 9223372036854775807) (h1 : n2 ≤ 2147483647) (h2 : n = 0)
    (C9 : Calls Try.prog 9 #[.slice a n cap] w fun e w' => e = .returned (.bool true) ∧ w = w') :
    Calls Try.prog 8 #[.slice a n cap, .slice a2 n2 cap2] w fun e w' => e = .returned (.bool true) ∧ Below w.heap.size w w' := by
  have t3 : decide ((2147483647 : Int) < (n2 : Int)) = false := by simp; omega
  subst h2
  go_enter Try.func8, Try.ntmps8
  go_wp2_with (go_at_call 9; refine C9.mono ?_; rintro e w1 ⟨rfl, rfl⟩)
  go_ret
  exact ⟨rfl, Below.refl _ _⟩

set_option maxRecDepth 100000 in
set_option maxHeartbeats 1000000 in
theorem e_many (a : Option Addr) (n cap : Nat) (a2 : Option Addr) (n2 cap2 : Nat) (ss : List ByteArray) (w : World) (hn : n ≤ 9223372036854775807) (hn2 : n2 ≤ 9223372036854775807) (h1 : n2 ≤ 2147483647) (h2 : 10 < n)
    (C9 : Calls Try.prog 9 #[.slice a n cap] w fun e w' => e = .returned (.bool true) ∧ w = w') :
    Calls Try.prog 8 #[.slice a n cap, .slice a2 n2 cap2] w fun e w' => e = .returned (.bool true) ∧ Below w.heap.size w w' := by
  have t3 : decide ((2147483647 : Int) < (n2 : Int)) = false := by simp; omega
  have t1 : ((n : Int) == 0) = false := by simp; omega
  have t2 : decide ((10 : Int) < (n : Int)) = true := by simp; omega
  go_enter Try.func8, Try.ntmps8
  go_wp2_with (go_at_call 9; refine C9.mono ?_; rintro e w1 ⟨rfl, rfl⟩)
  go_ret
  exact ⟨rfl, Below.refl _ _⟩

set_option maxRecDepth 100000 in
set_option maxHeartbeats 1000000 in
theorem e_part (a : Option Addr) (n cap : Nat) (a2 : Option Addr) (n2 cap2 : Nat) (ss : List ByteArray) (w : World) (hn : n ≤ 9223372036854775807) (hn2 : n2 ≤ 9223372036854775807) (h1 : n2 ≤ 2147483647) (h2 : n ≤ 10) (h3 : 0 < n) (h4 : n2 + 1 ≠ n)
    (C9 : Calls Try.prog 9 #[.slice a n cap] w fun e w' => e = .returned (.bool true) ∧ w = w') :
    Calls Try.prog 8 #[.slice a n cap, .slice a2 n2 cap2] w fun e w' => e = .returned (.bool true) ∧ Below w.heap.size w w' := by
  have t3 : decide ((2147483647 : Int) < (n2 : Int)) = false := by simp; omega
  have t1 : ((n : Int) == 0) = false := by simp; omega
  have t2 : decide ((10 : Int) < (n : Int)) = false := by simp; omega
  have t4 : ((n2 : Int) == (n : Int) - 1) = false := by simp; omega
  go_enter Try.func8, Try.ntmps8
  go_wp2_with (go_at_call 9; refine C9.mono ?_; rintro e w1 ⟨rfl, rfl⟩)
  go_ret
  exact ⟨rfl, Below.refl _ _⟩

theorem walk (a : Option Addr) (n cap : Nat) (ss : List ByteArray) (a2 : Option Addr) (n2 cap2 : Nat) (w : World) (hS : Strs w a n ss) (hss : ∀ s ∈ ss, s.size ≤ maxLen) (hn : n ≤ maxLen) (hn2 : n2 ≤ maxLen) :
    Calls Try.prog 8 #[.slice a n cap, .slice a2 n2 cap2] w fun e w' => e = .returned (.bool true) ∧ Below w.heap.size w w' := by
  unfold maxLen at *
  have C9 := fits_any a n cap ss w hn hS
  cases hf : fitsB ss with
  | false =>
    rw [hf] at C9
    exact e_fits a n cap a2 n2 cap2 ss w hn hn2 C9
  | true =>
    rw [hf] at C9
    by_cases h1 : n2 ≤ 2147483647
    · by_cases h2 : n = 0
      · exact e_zero a n cap a2 n2 cap2 ss w hn hn2 h1 h2 C9
      · by_cases h3 : n ≤ 10
        · by_cases h4 : n2 + 1 = n
          · rcases hS.2 with h | ⟨b, off, rfl, hlt, hc⟩
            · have := hS.1; rw [h] at this; simp at this; omega
            · exact main b off cap n a2 n2 cap2 ss w h3 (by omega) h4 hS.1 hlt hc hss C9
          · exact e_part a n cap a2 n2 cap2 ss w hn hn2 h1 h3 (by omega) h4 C9
        · exact e_many a n cap a2 n2 cap2 ss w hn hn2 h1 (by omega) C9
    · exact e_wild a n cap a2 n2 cap2 ss w hn hn2 (by omega) C9

theorem own : ownKnob Try.prog.godebug = none := by kernel_rfl
theorem laidOut : laidOutB Try.prog = true := by kernel_rfl
set_option maxRecDepth 100000 in
theorem lifted (os : Os) (started : os.Started) (H : Type) (enc : TypeId × Value → H) :
    ReturnsInHanded {} Try.checked os 8 .any (Rows.fnGlobbedSpec.pre6 enc Try.prog Try.f8 Rows.fnGlobbedRow.domain false) (Rows.fnGlobbedSpec.post enc Try.prog Try.f8 false true false false) := by
  refine returnsInHanded_of_change (C := Try.checked) own started (by kernel_rfl) Try.func8
    (ChangeSpec.witness6 (enc := enc) (C := Try.checked) false ⟨#[], #[.slice none 0 0, .slice none 0 0], []⟩ 8 (by kernel_rfl) (by kernel_rfl) (by kernel_rfl) (by kernel_rfl)) ?_
  intro W base args ds gs before hval0 hW hcnd _
  have hval : ∀ (j : Nat) t v, Try.f8.params[j]? = some t → args[j]? = some v → Value.okWide Try.prog W .any base t v := hval0
  have hW' := hW
  obtain ⟨p, q, hA0, hV, rfl, hfz, hnd⟩ := hW
  have hA : DataW.TrodAll enc Try.prog W 0 (fun _ => true) true Try.f8.params.toList args.toList ds p := hA0
  rw [Try.params8] at hA hval
  obtain ⟨v0, vs0, d0, ds0, p0, q0, hargs, rfl, rfl, h0, r0⟩ := trodAll_cons hA
  obtain ⟨v1, vs1, d1, ds1, p1, q1, rfl, rfl, rfl, h1, r1⟩ := trodAll_cons r0
  obtain ⟨rfl, rfl, rfl⟩ := trodAll_nil r1
  obtain rfl : args = #[v0, v1] := by cases args; simp_all
  obtain ⟨rfl, rfl⟩ := trodVars_none hV
  have k0 := h0
  have lt0 : ∀ x ∈ p0, x.block < W.heap.size := by obtain ⟨m, hm⟩ := k0; exact DataW.trod_lt m _ _ _ hm
  have k1 := h1
  have lt1 : ∀ x ∈ p1, x.block < W.heap.size := by obtain ⟨m, hm⟩ := k1; exact DataW.trod_lt m _ _ _ hm
  obtain ⟨a0, len0, cap0, rfl⟩ := okWide_slice Try.underlying22 (hval 0 22 v0 rfl rfl)
  obtain ⟨z0, w0, u0, n0⟩ : ∃ ss, Strs W a0 len0 ss ∧ (∀ s ∈ ss, s.size ≤ maxLen) ∧ len0 ≤ maxLen := by
    obtain ⟨fuel, hf⟩ := h0
    rcases open_strings Try.underlying22 Try.underlying9 (by kernel_rfl) hf with ⟨hcs, _⟩ | ⟨x, l, c, zs, hcs, _, hl, hm, hz, _, hcell, hwz⟩
    · simp [Value.cells] at hcs
      obtain ⟨rfl, rfl, rfl⟩ := hcs
      exact ⟨[], ⟨rfl, .inl rfl⟩, by simp, Nat.zero_le _⟩
    · simp [Value.cells] at hcs
      obtain ⟨rfl, rfl, rfl⟩ := hcs
      exact ⟨zs.take _, strs_of (by simp at hz; omega) hcell, fun s hs => hwz s (List.mem_of_mem_take hs), by omega⟩
  obtain ⟨a1, len1, cap1, rfl⟩ := okWide_slice Try.underlying43 (hval 1 43 v1 rfl rfl)
  have n1 : len1 ≤ maxLen := by
    obtain ⟨fuel, hf⟩ := h1
    rcases DataW.trod_slice Try.underlying43 hf with ⟨hcs, _⟩ | ⟨x, l, c, els, rst, m, _, hcs, _, _, hl, hm, _⟩
    · simp [Value.cells] at hcs
      obtain ⟨rfl, rfl, rfl⟩ := hcs
      exact Nat.zero_le _
    · simp [Value.cells] at hcs
      obtain ⟨rfl, rfl, rfl⟩ := hcs
      omega
  clear hA0 hval0
  refine (walk a0 len0 cap0 z0 a1 len1 cap1 W w0 u0 n0 n1).mono fun e W' ⟨he, bel⟩ => ?_
  subst he
  exact ⟨_, rfl, _, _, _, [], _, [], hW', trodAll_mk1 (shut_bool Try.underlying4 _), (trodAll_cons_mk (Below.trod laidOut (by kernel_rfl) (of_decide_eq_true (by kernel_rfl)) k0 bel lt0) (trodAll_cons_mk (Below.trod laidOut (by kernel_rfl) (of_decide_eq_true (by kernel_rfl)) k1 bel lt1) trodAll_mk0)), rfl, bel.frame _, fun h => by cases h⟩

theorem over : Rows.fnGlobbedRow.holds Try.pinned (OpenSpec.ofChange Rows.fnGlobbedSpec) :=
  OpenClaim.holds_of_wide 8 Try.f8 rfl rfl rfl rfl rfl rfl rfl ⟨rfl, rfl, rfl, rfl, rfl⟩ rfl rfl rfl rfl rfl (by kernel_rfl) Try.func8 (by kernel_rfl)
    (of_decide_eq_true (by kernel_rfl)) (by unfold Func.isWrapper; first | (rw [if_pos (by decide +kernel)]; kernel_rfl) | (rw [if_neg (by decide +kernel)]; exact ⟨rfl, rfl⟩))
    (fun os started H enc _ => lifted os started H enc)
theorem proved : Rows.FnGlobbedSaid := over
#print axioms proved
end Go.Proofs.Ytfpfpdjnmfiffaa.fnGlobbed
