/- laws.percented (8) is unp; laws.hexOf (12). -/
import Derived.Test.YtmfbnmjmgpafmaaDoorPctR
import Derived.Test.YtmfbnmjmgpafmaaDoorReg
import Derived.Lib.SmallJoins
import Derived.Laws.BytesArg
import Derived.Laws.IdiomStrings
namespace Go.Proofs.YtmfbnmjmgpafmaaDoor
open Go.RowKit
set_option linter.unusedVariables false
set_option linter.unusedSimpArgs false
/-- What hexOf says. -/
def hexI (c : Nat) : Int := if isHexN c = true then (hexVal c : Int) else -1
set_option maxRecDepth 100000 in
set_option maxHeartbeats 1000000 in
theorem hexOf_any (c : Nat) (w : World) (hc : c < 256) : Calls Tryd.prog 12 #[.int .u8 (c : Int)] w fun e w' => e = .returned (.int .i64 (hexI c)) ∧ w' = w := by
  have key : ∀ b : Int, hexI c = b → (Calls Tryd.prog 12 #[.int .u8 (c : Int)] w fun e w' => e = .returned (.int .i64 b) ∧ w' = w) → Calls Tryd.prog 12 #[.int .u8 (c : Int)] w fun e w' => e = .returned (.int .i64 (hexI c)) ∧ w' = w := fun b h k => by rw [h]; exact k
  by_cases h1 : 48 ≤ c
  · have t1 : decide ((48 : Int) ≤ (c : Int)) = true := by simp; omega
    by_cases h2 : c ≤ 57
    · have t2 : decide ((c : Int) ≤ 57) = true := by simp; omega
      refine key ((c : Int) - 48) (by simp [hexI, isHexN, hexVal, h1, h2]; omega) ?_
      clear key
      go_enter Tryd.func12, Tryd.ntmps12
      go_wp2
      go_ret
      exact ⟨rfl, rfl⟩
    · have t2 : decide ((c : Int) ≤ 57) = false := by simp; omega
      by_cases h3 : 97 ≤ c
      · have t3 : decide ((97 : Int) ≤ (c : Int)) = true := by simp; omega
        have t5 : decide ((65 : Int) ≤ (c : Int)) = true := by simp; omega
        have t6 : decide ((c : Int) ≤ 70) = false := by simp; omega
        by_cases h4 : c ≤ 102
        · have t4 : decide ((c : Int) ≤ 102) = true := by simp; omega
          refine key ((c : Int) - 97 + 10) (by simp [hexI, isHexN, hexVal, h1, h2, h3, h4]; omega) ?_
          clear key
          go_enter Tryd.func12, Tryd.ntmps12
          go_wp2
          go_ret
          exact ⟨rfl, rfl⟩
        · have t4 : decide ((c : Int) ≤ 102) = false := by simp; omega
          refine key (-1) (by have : ¬ c ≤ 70 := by omega
                              simp [hexI, isHexN, h2, h4, this]) ?_
          clear key
          go_enter Tryd.func12, Tryd.ntmps12
          go_wp2
          go_ret
          exact ⟨rfl, rfl⟩
      · have t3 : decide ((97 : Int) ≤ (c : Int)) = false := by simp; omega
        by_cases h5 : 65 ≤ c
        · have t5 : decide ((65 : Int) ≤ (c : Int)) = true := by simp; omega
          by_cases h6 : c ≤ 70
          · have t6 : decide ((c : Int) ≤ 70) = true := by simp; omega
            refine key ((c : Int) - 65 + 10) (by simp [hexI, isHexN, hexVal, h1, h2, h3, h5, h6]; omega) ?_
            clear key
            go_enter Tryd.func12, Tryd.ntmps12
            go_wp2
            go_ret
            exact ⟨rfl, rfl⟩
          · have t6 : decide ((c : Int) ≤ 70) = false := by simp; omega
            refine key (-1) (by simp [hexI, isHexN, h2, h3, h6]) ?_
            clear key
            go_enter Tryd.func12, Tryd.ntmps12
            go_wp2
            go_ret
            exact ⟨rfl, rfl⟩
        · have t5 : decide ((65 : Int) ≤ (c : Int)) = false := by simp; omega
          refine key (-1) (by simp [hexI, isHexN, h2, h3, h5]) ?_
          clear key
          go_enter Tryd.func12, Tryd.ntmps12
          go_wp2
          go_ret
          exact ⟨rfl, rfl⟩
  · have t1 : decide ((48 : Int) ≤ (c : Int)) = false := by simp; omega
    have t3 : decide ((97 : Int) ≤ (c : Int)) = false := by simp; omega
    have t5 : decide ((65 : Int) ≤ (c : Int)) = false := by simp; omega
    refine key (-1) (by have h2 : ¬ 97 ≤ c := by omega
                        have h3 : ¬ 65 ≤ c := by omega
                        simp [hexI, isHexN, h1, h2, h3]) ?_
    clear key
    go_enter Tryd.func12, Tryd.ntmps12
    go_wp2
    go_ret
    exact ⟨rfl, rfl⟩
theorem drop_getD {t : List Nat} {i : Nat} (h : i < t.length) : t.drop i = t.getD i 0 :: t.drop (i + 1) := by
  rw [List.drop_eq_getElem_cons h]
  simp [List.getD, List.getElem?_eq_getElem h]
theorem unp_end {t : List Nat} {i : Nat} (h : t.length ≤ i) : unp (t.drop i) = [] := by rw [List.drop_eq_nil_of_le h]; rfl
theorem unp_two {t : List Nat} {i : Nat} (h : i + 2 < t.length) (h0 : t.getD i 0 = 37) (h1 : isHexN (t.getD (i + 1) 0) = true) (h2 : isHexN (t.getD (i + 2) 0) = true) :
    unp (t.drop i) = (16 * hexVal (t.getD (i + 1) 0) + hexVal (t.getD (i + 2) 0)) :: unp (t.drop (i + 3)) := by
  rw [drop_getD (by omega), drop_getD (i := i + 1) (by omega), drop_getD (i := i + 2) (by omega), unp, if_pos ⟨h0, h1, h2⟩]
theorem unp_one {t : List Nat} {i : Nat} (h : i < t.length) (hn : ¬ (t.getD i 0 = 37 ∧ i + 2 < t.length ∧ isHexN (t.getD (i + 1) 0) = true ∧ isHexN (t.getD (i + 2) 0) = true)) :
    unp (t.drop i) = t.getD i 0 :: unp (t.drop (i + 1)) := by
  rw [drop_getD h, unp_raw]
  rintro ⟨e37, b, c, l, hl, hb, hc⟩
  have hlen := congrArg List.length hl
  simp only [List.length_drop, List.length_cons] at hlen
  rw [drop_getD (by omega), drop_getD (i := i + 1 + 1) (by omega)] at hl
  simp only [List.cons.injEq] at hl
  exact hn ⟨e37, by omega, by rw [hl.1]; exact hb, by rw [show i + 2 = i + 1 + 1 by omega, hl.2.1]; exact hc⟩
theorem unp_lt (k : Nat) : ∀ l : List Nat, l.length ≤ k → (∀ b ∈ l, b < 256) → ∀ b ∈ unp l, b < 256 := by
  induction k with
  | zero => intro l hk _ b hb; obtain rfl := List.eq_nil_of_length_eq_zero (by omega : l.length = 0); cases hb
  | succ k ih =>
    intro l hk h b hb
    match l, hk, h, hb with
    | [], _, _, hb => cases hb
    | [a], _, h, hb => exact h b hb
    | [a, c], _, h, hb => exact h b hb
    | a :: c :: d :: r, hk, h, hb =>
      simp only [List.length_cons] at hk
      unfold unp at hb
      split at hb
      · rename_i hh
        rcases List.mem_cons.1 hb with rfl | hb
        · have v : ∀ c, isHexN c = true → hexVal c < 16 := by
            intro c hc
            simp only [isHexN, Bool.or_eq_true, Bool.and_eq_true, decide_eq_true_eq] at hc
            unfold hexVal
            split
            · omega
            · split <;> omega
          have := v c hh.2.1
          have := v d hh.2.2
          omega
        · exact ih r (by omega) (fun x hx => h x (by simp [hx])) b hb
      · rcases List.mem_cons.1 hb with rfl | hb
        · exact h _ (by simp)
        · exact ih (c :: d :: r) (by simp; omega) (fun x hx => h x (List.mem_cons_of_mem _ hx)) b hb
/-- The bytes that were gathered, in a row of their own. -/
def Row (B : Nat) (acc : List Nat) (v : Value) (W : World) : Prop := W.ownsRow B 5 1 v acc.length (numCells acc)
theorem row_text {W : World} {B : Nat} {v : Value} {q : ByteArray} {acc : List Nat} (h : Row B acc v W) (hq : nums q = acc) : (convert 29 9 v).run Tryd.prog W = .ok (.string q) W := by
  have hl : q.data.toList.length = acc.length := by rw [← hq]; simp [nums]
  rcases Joins.ownsRow_forms h with ⟨rfl, h0⟩ | ⟨g, cap, rfl⟩
  · have e : acc = [] := List.eq_nil_of_length_eq_zero h0
    subst e
    obtain rfl : q = ByteArray.empty := nums_inj (by rw [hq]; rfl)
    show (convert 29 9 (.slice none 0 0)).run Tryd.prog W = _
    exact run_convert_bytes_nil W 29 5 Tryd.underlying29 Tryd.underlying5 0 0 9 Tryd.underlying9
  · have := run_convert_bytes_back (P := Tryd.prog) W 29 9 5 ⟨g, 0, none⟩ cap q.data.toList Tryd.underlying29 Tryd.underlying5 Tryd.underlying9 (fun j hj => by
      refine h.cells rfl j _ ?_
      rw [← hq]
      simp [numCells, nums, List.getElem?_eq_getElem hj])
    rw [hl] at this
    exact this
theorem row_add {B : Nat} {acc : List Nat} {b : Nat} {v : Value} {W : World} (h : W.ownsRow B 5 1 v (acc.length + 1) (numCells acc ++ [Value.int .u8 (b : Int)])) : Row B (acc ++ [b]) v W := by
  unfold Row
  rw [cells_app, List.length_append]
  exact h
theorem hexI_yes {c : Nat} (h : isHexN c = true) : decide ((0 : Int) ≤ hexI c) = true ∧ hexI c = (hexVal c : Int) ∧ hexVal c < 16 := by
  refine ⟨by simp [hexI, h], by simp [hexI, h], ?_⟩
  simp only [isHexN, Bool.or_eq_true, Bool.and_eq_true, decide_eq_true_eq] at h
  unfold hexVal
  split
  · omega
  · split <;> omega
theorem hexI_no {c : Nat} (h : isHexN c = false) : decide ((0 : Int) ≤ hexI c) = false := by simp [hexI, h]
set_option maxRecDepth 1000000 in
set_option maxHeartbeats 8000000 in
theorem percented_any (s : ByteArray) (w : World) (hs : s.size ≤ 100000) :
    Calls Tryd.prog 8 #[.string s] w fun e w' => (∃ q : ByteArray, nums q = unp (nums s) ∧ e = .returned (.string q)) ∧ Below w.heap.size w w' := by
  obtain ⟨i0, hi0, hz0, hz1, hz2⟩ := info_parts infoByte
  have HLT : Hid (∀ b ∈ unp (nums s), b < 256) := Lib.hid (unp_lt _ _ (Nat.le_refl _) (nums_lt s))
  have hnl := nums_len s
  go_enter Tryd.func8, Tryd.ntmps8
  go_wp2
  go_loopw [3, 4] (fun v iv W => ∃ (i : Nat) (acc : List Nat), iv = .int .i64 (i : Int) ∧ i ≤ s.size ∧ acc.length ≤ i ∧ Hid (acc ++ unp ((nums s).drop i) = unp (nums s)) ∧ Hid (Row w.heap.size acc v W) ∧ Below w.heap.size w W) (fun _ iv _ => s.size - (intOf iv).toNat)
  case atStart => exact ⟨0, [], rfl, Nat.zero_le _, Nat.le_refl _, Lib.hid rfl, Lib.hid (World.ownsRow_nil _ _ _ _), Below.refl _ w⟩
  case round =>
    obtain ⟨i, acc, rfl, hi, hacc, HU, HO, hb⟩ := hrel
    rename World => W
    have hsz := hb.size
    by_cases hlt : i < s.size
    · obtain ⟨c, hc⟩ : ∃ c, (nums s).getD i 0 = c := ⟨_, rfl⟩
      have g0 := at_num hlt hc
      have c256 : c < 256 := by rw [← g0]; exact UInt8.toNat_lt _
      by_cases hq : c = 37 ∧ i + 2 < s.size ∧ isHexN ((nums s).getD (i + 1) 0) = true ∧ isHexN ((nums s).getD (i + 2) 0) = true
      · obtain ⟨rfl, h2, hh1, hh2⟩ := hq
        have HN := Lib.hid (unp_two (t := nums s) (i := i) (by omega) hc hh1 hh2)
        have hi1 : i + 1 < s.size := by omega
        have hi2 : i + 2 < s.size := by omega
        obtain ⟨a1, ha1⟩ : ∃ a, (nums s).getD (i + 1) 0 = a := ⟨_, rfl⟩
        obtain ⟨a2, ha2⟩ : ∃ a, (nums s).getD (i + 2) 0 = a := ⟨_, rfl⟩
        have g1 := at_num hi1 ha1
        have g2 := at_num hi2 ha2
        have b1 : a1 < 256 := by rw [← g1]; exact UInt8.toNat_lt _
        have b2 : a2 < 256 := by rw [← g2]; exact UInt8.toNat_lt _
        have D1 := Lib.hid (fun W : World => hexOf_any a1 W b1)
        have D2 := Lib.hid (fun W : World => hexOf_any a2 W b2)
        have t2 : decide ((i : Int) + 2 < (s.size : Int)) = true := by simp; omega
        rw [ha1] at hh1 HN
        rw [ha2] at hh2 HN
        obtain ⟨p1, q1, l1⟩ := hexI_yes hh1
        obtain ⟨p2, q2, l2⟩ := hexI_yes hh2
        rw [q1] at p1 D1
        rw [q2] at p2 D2
        obtain ⟨d1, hd1⟩ : ∃ d, hexVal a1 = d := ⟨_, rfl⟩
        obtain ⟨d2, hd2⟩ : ∃ d, hexVal a2 = d := ⟨_, rfl⟩
        rw [hd1] at p1 D1 l1 HN
        rw [hd2] at p2 D2 l2 HN
        have HU2 : Hid ((acc ++ [16 * d1 + d2]) ++ unp ((nums s).drop (i + 3)) = unp (nums s)) := Lib.hid (by rw [← HU.out, HN.out]; simp)
        clear hd1 hd2 q1 q2 ha1 ha2 hh1 hh2 HN hc b1 b2
        go_wp2_with (first | (go_at_call 12; (with_reducible refine (D1.out _).mono ?_); rintro e w8 ⟨rfl, hw8⟩; rw [hw8]; clear hw8 w8) | (go_at_call 12; (with_reducible refine (D2.out _).mono ?_); rintro e w8 ⟨rfl, hw8⟩; rw [hw8]; clear hw8 w8))
        have e1 : IntKind.i64.wrap ((i : Int) + 1) = (i : Int) + 1 := by rw [IntKind.wrap_i64]; omega
        have e2 : IntKind.i64.wrap ((i : Int) + 2) = (i : Int) + 2 := by rw [IntKind.wrap_i64]; omega
        have e3 : IntKind.i64.wrap (16 * (d1 : Int)) = 16 * (d1 : Int) := by rw [IntKind.wrap_i64]; omega
        have e4 : IntKind.i64.wrap (16 * (d1 : Int) + (d2 : Int)) = 16 * (d1 : Int) + (d2 : Int) := by rw [IntKind.wrap_i64]; omega
        have e5 : IntKind.u8.wrap (16 * (d1 : Int) + (d2 : Int)) = ((16 * d1 + d2 : Nat) : Int) := by rw [IntKind.wrap_u8]; omega
        have hb1 : (0 : Int) ≤ (i : Int) + 1 ∧ (i : Int) + 1 < (s.size : Int) := by omega
        have hb2 : (0 : Int) ≤ (i : Int) + 2 ∧ (i : Int) + 2 < (s.size : Int) := by omega
        have gg1 : ∀ h, (s[((i : Int) + 1).toNat]'h).toNat = a1 := by
          intro h
          have : ((i : Int) + 1).toNat = i + 1 := by omega
          simp only [this]
          exact g1
        have gg2 : ∀ h, (s[((i : Int) + 2).toNat]'h).toNat = a2 := by
          intro h
          have : ((i : Int) + 2).toNat = i + 2 := by omega
          simp only [this]
          exact g2
        refine wp_region_pure 14 (by kernel_rfl) (by kernel_rfl) ?_
        simp only [List.take_succ_cons, List.take_zero, List.drop_succ_cons, List.drop_zero]
        iterate 14
          refine wpPure_step (a' := ?_) (fun W' K hK => ?_) ?_
          rotate_left
          unfold plStep
          go_simp
          first
            | (with_reducible exact hK)
            | (with_reducible refine ⟨_, D1.out _, ?_⟩; with_reducible exact hK)
            | (with_reducible refine ⟨_, D2.out _, ?_⟩; with_reducible exact hK)
        show plList _ _ _ _ _ _
        refine plList_step (fun K hK => ?_)
        unfold plStep
        go_simp
        refine hK _ _ ?_
        clear hK K
        refine plList_step (fun K hK => ?_)
        refine plStep_append rfl (.tmp 38) (.tmp 52) 29 rfl w.heap.size 5 i0 (.int .u8 0) 1 1 Tryd.underlying29 hi0 hz0 hz1 hz2 rfl (by decide) u3 acc.length (numCells acc) rfl (by first | exact HO.out.drew.alloc _ | exact (HO.out.alloc _).drew) ⟨W.heap.size, 0, none⟩ 1 1 [.int .u8 ((16 * d1 + d2 : Nat) : Int)] rfl rfl (one_at' W.drew _ _ _ rfl) (by simp [Value.oneCell']) (by unfold maxLen; omega) (by omega) (by simp; omega) ?_
        intro v' w2 hown hgrow
        refine hK _ _ ?_
        clear hK K
        refine plList_step (fun K hK => ?_)
        unfold plStep
        go_simp
        refine hK _ _ ?_
        clear hK K
        refine plList_nil ?_
        have HB2 := Lib.hid (((hb.drew.alloc hsz _).grown hgrow (by simp; omega) (fun k hk => (HO.out.lt k hk).1)))
        have HO2 := Lib.hid (row_add hown)
        clear hown hgrow e1 e2 e3 e4 e5 hb1 hb2 gg1 gg2
        go_wp2
        go_roundw
        case rel => exact ⟨i + 3, acc ++ [16 * d1 + d2], by go_num, by omega, by simp; omega, HU2, HO2, HB2.out⟩
        case measure => simp [intOf]; omega
      · have HN := Lib.hid (unp_one (t := nums s) (i := i) (by omega) (by rw [hc, hnl]; exact hq))
        rw [hc] at HN
        have HU2 : Hid ((acc ++ [c]) ++ unp ((nums s).drop (i + 1)) = unp (nums s)) := Lib.hid (by rw [← HU.out, HN.out]; simp)
        clear hc HN
        by_cases h37 : c = 37
        · subst h37
          by_cases h2 : i + 2 < s.size
          · have hi1 : i + 1 < s.size := by omega
            have hi2 : i + 2 < s.size := by omega
            obtain ⟨a1, ha1⟩ : ∃ a, (nums s).getD (i + 1) 0 = a := ⟨_, rfl⟩
            obtain ⟨a2, ha2⟩ : ∃ a, (nums s).getD (i + 2) 0 = a := ⟨_, rfl⟩
            have g1 := at_num hi1 ha1
            have g2 := at_num hi2 ha2
            have b1 : a1 < 256 := by rw [← g1]; exact UInt8.toNat_lt _
            have b2 : a2 < 256 := by rw [← g2]; exact UInt8.toNat_lt _
            have D1 := Lib.hid (fun W : World => hexOf_any a1 W b1)
            have D2 := Lib.hid (fun W : World => hexOf_any a2 W b2)
            have t2 : decide ((i : Int) + 2 < (s.size : Int)) = true := by simp; omega
            rw [ha1, ha2] at hq
            clear ha1 ha2
            cases hh1 : isHexN a1 with
            | false =>
              have p1 := hexI_no hh1
              generalize hexI a1 = x1 at p1 D1
              clear hq hh1 b1 b2
              go_wp2_with (first | (at_builtin; refine wpList_append_own _ rfl _ _ 29 rfl w.heap.size 5 i0 (.int .u8 0) 1 1 Tryd.underlying29 hi0 hz0 hz1 hz2 rfl (by decide) _ _ _ rfl (HO.out.alloc _) ⟨W.heap.size, 0, none⟩ 1 1 [_] rfl rfl (one_at' _ _ _ _ rfl) (by simp [Value.oneCell']) (by unfold maxLen; omega) (by omega) (by simp; omega) ?_) | (go_at_call 12; (with_reducible refine (D1.out _).mono ?_); rintro e w8 ⟨rfl, hw8⟩; rw [hw8]; clear hw8 w8))
              intro v' w2 hown hgrow _
              have HB2 := Lib.hid ((hb.alloc hsz _).grown hgrow (by simp; omega) (fun k hk => (HO.out.lt k hk).1))
              have HO2 := Lib.hid (row_add hown)
              clear hown hgrow
              go_wp2
              go_roundw
              case rel => exact ⟨i + 1, acc ++ [37], by go_num, by omega, by simp; omega, HU2, HO2, HB2.out⟩
              case measure => simp [intOf]; omega
            | true =>
              cases hh2 : isHexN a2 with
              | true => exact absurd ⟨rfl, h2, hh1, hh2⟩ hq
              | false =>
                obtain ⟨p1, q1, l1⟩ := hexI_yes hh1
                have p2 := hexI_no hh2
                rw [q1] at p1 D1
                generalize hexVal a1 = x1 at p1 D1
                generalize hexI a2 = x2 at p2 D2
                clear hq hh1 hh2 b1 b2 q1 l1
                go_wp2_with (first | (at_builtin; refine wpList_append_own _ rfl _ _ 29 rfl w.heap.size 5 i0 (.int .u8 0) 1 1 Tryd.underlying29 hi0 hz0 hz1 hz2 rfl (by decide) _ _ _ rfl (HO.out.alloc _) ⟨W.heap.size, 0, none⟩ 1 1 [_] rfl rfl (one_at' _ _ _ _ rfl) (by simp [Value.oneCell']) (by unfold maxLen; omega) (by omega) (by simp; omega) ?_) | (go_at_call 12; (with_reducible refine (D1.out _).mono ?_); rintro e w8 ⟨rfl, hw8⟩; rw [hw8]; clear hw8 w8) | (go_at_call 12; (with_reducible refine (D2.out _).mono ?_); rintro e w8 ⟨rfl, hw8⟩; rw [hw8]; clear hw8 w8))
                intro v' w2 hown hgrow _
                have HB2 := Lib.hid ((hb.alloc hsz _).grown hgrow (by simp; omega) (fun k hk => (HO.out.lt k hk).1))
                have HO2 := Lib.hid (row_add hown)
                clear hown hgrow
                go_wp2
                go_roundw
                case rel => exact ⟨i + 1, acc ++ [37], by go_num, by omega, by simp; omega, HU2, HO2, HB2.out⟩
                case measure => simp [intOf]; omega
          · have t2 : decide ((i : Int) + 2 < (s.size : Int)) = false := by simp; omega
            clear hq
            go_wp2_with (first | (at_builtin; refine wpList_append_own _ rfl _ _ 29 rfl w.heap.size 5 i0 (.int .u8 0) 1 1 Tryd.underlying29 hi0 hz0 hz1 hz2 rfl (by decide) _ _ _ rfl (HO.out.alloc _) ⟨W.heap.size, 0, none⟩ 1 1 [_] rfl rfl (one_at' _ _ _ _ rfl) (by simp [Value.oneCell']) (by unfold maxLen; omega) (by omega) (by simp; omega) ?_))
            intro v' w2 hown hgrow _
            have HB2 := Lib.hid ((hb.alloc hsz _).grown hgrow (by simp; omega) (fun k hk => (HO.out.lt k hk).1))
            have HO2 := Lib.hid (row_add hown)
            clear hown hgrow
            go_wp2
            go_roundw
            case rel => exact ⟨i + 1, acc ++ [37], by go_num, by omega, by simp; omega, HU2, HO2, HB2.out⟩
            case measure => simp [intOf]; omega
        · have t1 : ((c : Int) == 37) = false := by simp; omega
          clear hq
          go_wp2_with (first | (at_builtin; refine wpList_append_own _ rfl _ _ 29 rfl w.heap.size 5 i0 (.int .u8 0) 1 1 Tryd.underlying29 hi0 hz0 hz1 hz2 rfl (by decide) _ _ _ rfl (HO.out.alloc _) ⟨W.heap.size, 0, none⟩ 1 1 [_] rfl rfl (one_at' _ _ _ _ rfl) (by simp [Value.oneCell']) (by unfold maxLen; omega) (by omega) (by simp; omega) ?_))
          intro v' w2 hown hgrow _
          have HB2 := Lib.hid ((hb.alloc hsz _).grown hgrow (by simp; omega) (fun k hk => (HO.out.lt k hk).1))
          have HO2 := Lib.hid (row_add hown)
          clear hown hgrow
          go_wp2
          go_roundw
          case rel => exact ⟨i + 1, acc ++ [c], by go_num, by omega, by simp; omega, HU2, HO2, HB2.out⟩
          case measure => simp [intOf]; omega
    · obtain rfl : i = s.size := by omega
      obtain ⟨q, hq⟩ := exists_text (unp (nums s)) HLT.out
      have HC := Lib.hid (row_text HO.out (q := q) (by rw [hq, ← HU.out, unp_end (by omega)]; simp))
      have c1 := HC.out
      go_wp2
      go_ret
      exact ⟨⟨q, hq, rfl⟩, hb⟩
end Go.Proofs.YtmfbnmjmgpafmaaDoor
