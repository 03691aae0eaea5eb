/- FnHashedBy's law, walked. -/
import Derived.Test.YtonndmljendcoaaDoorHashT
import Derived.Deep.QuietTactic
import Derived.BigQuiet
import Derived.Lib.SmallJoins
namespace Go.Proofs.YtonndmljendcoaaDoor
open Go.RowKit
set_option linter.unusedVariables false
set_option linter.unusedSimpArgs false
set_option maxRecDepth 100000 in
set_option maxHeartbeats 8000000 in
theorem law_nil (a : Option Addr) (c : Nat) (w : World) : Calls Tryd.prog 4 #[.slice a 0 c] w fun e w' => e = .returned (.bool true) ∧ Below w.heap.size w w' := by
  go_enter Tryd.func4, Tryd.ntmps4
  go_wp2_with (go_at_call 7; refine (fits6_nil a c w).mono ?_; rintro e w' ⟨rfl, rfl⟩)
  go_ret
  exact ⟨rfl, Below.refl _ _⟩
set_option maxRecDepth 100000 in
set_option maxHeartbeats 8000000 in
theorem law_many (b off n c : Nat) (xs : List (Int × Option Addr × Nat × Nat)) (w : World) (hn : xs.length = n) (hn0 : 50 < n) (hb : b < w.heap.size) (hx : StepsAt w b off xs) : Calls Tryd.prog 4 #[.slice (some ⟨b, off, none⟩) n c] w fun e w' => e = .returned (.bool true) ∧ Below w.heap.size w w' := by
  have C7 := Lib.hid (fits6_any b off n c xs w hn hb hx)
  have t1 : ((n : Int) == 0) = false := by simp; omega
  have t2 : decide ((50 : Int) < (n : Int)) = true := by simp; omega
  clear hx hn
  go_enter Tryd.func4, Tryd.ntmps4
  go_wp2_with (go_at_call 7; refine C7.out.mono ?_; rintro e w1 ⟨⟨bb, rfl⟩, hb1⟩; cases bb)
  all_goals
    go_ret
    exact ⟨rfl, hb1⟩
/-- What stands at the first loop's head behind k steps. -/
def LAt (w : World) (xs : List Stp) (k : Nat) (wv o : Value) (W : World) : Prop :=
  (∃ vals, LSt w (after [] ((xs.map Stp.pr).take k)) (answers [] ((xs.map Stp.pr).take k)) wv o k vals W) ∧ ∀ x ∈ xs.take k, x.n ≤ 500
theorem LAt.snoc {w : World} {xs : List Stp} {k : Nat} {x : Stp} (hx : xs[k]? = some x) (h0 : ∀ y ∈ xs.take k, y.n ≤ 500) (hm : x.n ≤ 500) (W : World) (wv o : Value) (vals : List Value)
    (h : LSt w (stepS (after [] ((xs.map Stp.pr).take k)) x.kd x.l) (answers [] ((xs.map Stp.pr).take k) ++ [answer (after [] ((xs.map Stp.pr).take k)) x.kd x.l]) wv o (k + 1) vals W) : LAt w xs (k + 1) wv o W := by
  have e : (xs.map Stp.pr).take (k + 1) = (xs.map Stp.pr).take k ++ [(x.kd, x.l)] := by
    rw [List.take_add_one, List.getElem?_map, hx]; rfl
  refine ⟨⟨vals, ?_⟩, ?_⟩
  · rw [e, after_snoc, answers_snoc]
    exact h
  · rw [List.take_add_one, hx]
    intro y hy
    rcases List.mem_append.1 hy with hy | hy
    · exact h0 y hy
    · simp at hy; subst hy; exact hm
theorem own_sl8 {W : World} {base g c : Nat} {h : UInt64} (hv : W.ownsRow base 5 1 (.slice (some ⟨g, 0, none⟩) 8 c) 8 (be8 h)) : SlB W (some ⟨g, 0, none⟩) 8 c (be8B h) := by
  rw [be8_bytes] at hv
  obtain ⟨a, c', e, h1, _⟩ := own_sl (l := be8B h) hv
  cases e
  exact h1
theorem apart_new {W : World} {base g c n : Nat} {v : Value} {k : Nat} {xs : List Value} (h : W.ownsRow base 5 1 v k xs) (hg : W.heap.size ≤ g) : (Value.slice (some ⟨g, 0, none⟩) n c).ownBlock = none ∨ (Value.slice (some ⟨g, 0, none⟩) n c).ownBlock ≠ v.ownBlock :=
  .inr fun e => by have := (h.lt g e.symm).2; omega
theorem Stp.fits.wide {w w' : World} {x : Stp} (h : x.fits w w.heap.size) (hs : w.heap.size ≤ w'.heap.size) (hk : ∀ g, g < w.heap.size → w'.heap[g]? = w.heap[g]?) : x.fits w' w'.heap.size :=
  ⟨(h.of hk hs).1, fun g off e hp => Nat.lt_of_lt_of_le (h.2.1 g off e hp) hs, h.2.2⟩
theorem told_form {w : World} {xs : List Stp} {k : Nat} {args : Array Value} (hk : 0 < k) (hn : xs.length = k) (h : Calls Tryd.prog 9 args w (HTold w xs)) :
    Calls Tryd.prog 9 args w fun e w' => ∃ g cap vals, e = .returned (.tuple #[.slice (some ⟨g, 0, none⟩) k cap, .bool true]) ∧ w'.ownsRow w.heap.size 22 1 (.slice (some ⟨g, 0, none⟩) k cap) k vals ∧ RowsAre w' w.heap.size vals (answers [] (xs.map Stp.pr)) ∧ Below w.heap.size w w' := by
  refine h.mono ?_
  rintro e w' ⟨o, vals, rfl, ho, hr, hb⟩
  rw [hn] at ho
  obtain ⟨g, cap, rfl, _, _⟩ := ho.form hk
  exact ⟨g, cap, vals, rfl, ho, hr, hb⟩
theorem answers_at (S : List UInt8) (xs : List (Int × List UInt8)) (j : Nat) (x : Int × List UInt8) (h : xs[j]? = some x) : (answers S xs)[j]? = some (answer (after S (xs.take j)) x.1 x.2) := by
  induction xs generalizing S j with
  | nil => simp at h
  | cons y r ih =>
    cases j with
    | zero => simp at h; subst h; rfl
    | succ j => simpa [answers, after] using ih (stepS S y.1 y.2) j (by simpa using h)
theorem cell_at {W : World} {base g n cap j : Nat} {e : TypeId} {vals : List Value} {v : Value} (h : W.ownsRow base e 1 (.slice (some ⟨g, 0, none⟩) n cap) n vals) (hj : vals[j]? = some v) : W.cell? ⟨g, j, none⟩ = some v := by
  have := h.cells rfl j v hj
  have e : ((⟨g, 0, none⟩ : Addr).add j) = ⟨g, j, none⟩ := by unfold Addr.add; split <;> simp_all
  rwa [e] at this
set_option maxRecDepth 100000 in
set_option maxHeartbeats 16000000 in
theorem law_some (b off n c : Nat) (xs : List Stp) (w : World) (hn : xs.length = n) (hn1 : 0 < n) (hn0 : n ≤ 50) (hb : b < w.heap.size) (hx : StepsAt w b off (xs.map Stp.tri)) (hf : ∀ x ∈ xs, x.fits w w.heap.size)
    (hp : w.cell? ⟨0, 0, none⟩ = some (.int .u64 11400714785074694791)) : Calls Tryd.prog 4 #[.slice (some ⟨b, off, none⟩) n c] w fun e w' => e = .returned (.bool true) ∧ Below w.heap.size w w' := by
  obtain ⟨iB, hiB, hzB0, hzB1, hzB2⟩ := info_parts infoB
  have C7 := Lib.hid (fits6_any b off n c (xs.map Stp.tri) w (by simpa using hn) hb hx)
  have t1 : ((n : Int) == 0) = false := by simp; omega
  have t2 : decide ((50 : Int) < (n : Int)) = false := by simp; omega
  have h00 : 0 < w.heap.size := World.block_lt_of_cell? w _ hp
  have HPP := Lib.hid hp
  have HX := Lib.hid hx
  have HF := Lib.hid hf
  have HN := Lib.hid hn
  clear hp hx hf hn
  go_enter Tryd.func4, Tryd.ntmps4
  go_wp2_with (go_at_call 7; refine C7.out.mono ?_; rintro e w1 ⟨⟨bb, rfl⟩, hb1⟩; have HB1 := Lib.hid hb1; clear hb1; cases bb)
  · go_ret
    exact ⟨rfl, HB1.out⟩
  · go_loopw [3, 4, 24] (fun wv o ti W => ∃ k : Nat, k ≤ n ∧ ti = .int .i64 k ∧ Hid (LAt w xs k wv o W)) (fun _ _ ti _ => n - (intOf ti).toNat)
    case atStart => exact ⟨0, Nat.zero_le _, rfl, Lib.hid ⟨⟨[], World.ownsRow_nil _ _ _ _, World.ownsRow_nil _ _ _ _, RowsAre.nil _ _, fun v hv => by simp at hv, HB1.out⟩, fun x hx => by simp at hx⟩⟩
    case round =>
      obtain ⟨k, hk, rfl, HA⟩ := hrel
      by_cases hkn : k < n
      · obtain ⟨x, hx⟩ : ∃ x, xs[k]? = some x := ⟨_, List.getElem?_eq_getElem (by rw [HN.out]; exact hkn)⟩
        have hmem : x ∈ xs := List.mem_of_getElem? hx
        obtain ⟨⟨vals, hSt⟩, hms⟩ := HA.out
        have hlen : (∀ y ∈ xs.take k, y.n ≤ 500) → (after [] ((xs.map Stp.pr).take k)).length ≤ 500 * k := fun hms => by
          have := after_len [] ((xs.map Stp.pr).take k) (fun y hy => by
            rw [← List.map_take] at hy
            obtain ⟨z, hz, rfl⟩ := List.mem_map.1 hy
            have h1 := hms z hz
            have h2 := (HF.out z (List.mem_of_mem_take hz)).1.1
            show z.l.length ≤ 500
            omega)
          simp at this
          omega
        have hlen := hlen hms
        have hsnoc := LAt.snoc (w := w) hx hms
        have hfw := HF.out x hmem
        have hsteps := StepsAt.of (w' := wr) HX.out (hSt.below.block b hb)
        obtain ⟨q0, q1⟩ := hsteps k x.tri (by rw [List.getElem?_map, hx]; rfl)
        have hbw : b < wr.heap.size := Nat.lt_of_lt_of_le hb hSt.below.size
        have hfx := hfw.of (w' := wr) (fun g hg => hSt.below.block g hg) hSt.below.size
        obtain ⟨kd, a, m, cc, l⟩ := x
        simp only [Stp.tri] at q0 q1
        simp only at hsnoc
        generalize after [] ((xs.map Stp.pr).take k) = S at *
        generalize answers [] ((xs.map Stp.pr).take k) = ans at *
        obtain ⟨W0, hW0⟩ : ∃ W0, W0 = wr.alloc (.cells #[.int .i64 kd, .slice a m cc] 30) := ⟨_, rfl⟩
        have hal : Below wr.heap.size wr W0 := by rw [hW0]; exact (Below.refl _ _).alloc (Nat.le_refl _) _
        have hS1 := hSt.more hal
        have hfx1 : (Stp.mk kd a m cc l).fits W0 w.heap.size := hfx.of (fun g hg => hal.block g (by have := hSt.below.size; omega)) hal.size
        have HSN := Lib.hid hsnoc
        have HFX := Lib.hid hfx1
        have HS1 := Lib.hid hS1
        have HLM : Hid (l.length = m) := Lib.hid hfx1.1.1
        have HH := Lib.hid hW0
        clear hx hmem hsnoc hfw hsteps hSt hfx hal hS1 hfx1 HA hms hW0
        by_cases g0 : kd < 0
        · have z0 : decide (kd < 0) = true := by simpa using g0
          go_wp2_with fail
          go_ret
          refine ⟨rfl, ?_⟩
          rw [← HH.out]
          exact HS1.out.below
        · have z0 : decide (kd < 0) = false := by simpa using g0
          by_cases g1 : 3 ≤ kd
          · have z1 : decide (3 ≤ kd) = true := by simpa using g1
            go_wp2_with fail
            go_ret
            refine ⟨rfl, ?_⟩
            rw [← HH.out]
            exact HS1.out.below
          · have z1 : decide (3 ≤ kd) = false := by simpa using g1
            by_cases g2 : 500 < m
            · have z2 : decide ((500 : Int) < (m : Int)) = true := by simp; omega
              go_wp2_with fail
              go_ret
              refine ⟨rfl, ?_⟩
              rw [← HH.out]
              exact HS1.out.below
            · have z2 : decide ((500 : Int) < (m : Int)) = false := by simp; omega
              have HSN := Lib.hid (HSN.out (by omega))
              rcases (show kd = 0 ∨ kd = 1 ∨ kd = 2 by omega) with rfl | rfl | rfl
              · have e1 : stepS S 0 l = S ++ l := by simp [stepS]
                have e2 : answer S 0 l = [] := by simp [answer]
                rw [e1, e2] at HSN
                have hT : wr.heap.size < W0.heap.size := by rw [HH.out]; simp
                rw [HH.out] at HS1 HFX hT
                clear e1 e2 g0 g1
                go_wp2_with (first | (at_builtin; refine wpList_app_bytes rfl (.tmp 46) (.tmp 48) rfl w.heap.size u3 S.length (byteCells S) rfl HS1.out.own1 a m cc l rfl HFX.out.1 HFX.out.2.2 (by omega) HS1.out.below.size ?_; intro v2 w2 hv2 hg2 hat2; have HS2 := Lib.hid (HS1.out.write HLM.out hv2 hg2 hat2); clear hv2 hg2 hat2) | (at_builtin; refine wpList_append_lies _ rfl (.tmp 62) (.tmp 64) 28 rfl w.heap.size 22 iB (.slice none 0 0) 1 24 Tryd.underlying28 hiB hzB0 hzB1 hzB2 rfl (by decide) u4 k vals rfl (HS2.out.own2.alloc _) ⟨w2.heap.size, 0, none⟩ 1 1 [.slice none 0 0] rfl rfl (one_new _ _ _ _ rfl) (by simp [Value.oneCell']) (by omega) (by unfold maxLen; omega) (by omega) (by simp; have := HS2.out.below.size; omega) (w2.heap.size + 1) (by simp) ?_; intro g cap w3 hown hgrow _ _; have HS3 := Lib.hid ((HS2.out.more ((Below.refl _ _).alloc (Nat.le_refl _) (.cells #[.slice none 0 0] 22))).push (l := []) (World.ownsRow_nil _ _ _ _) (.inl rfl) hgrow hown); clear hown hgrow))
                go_roundw
                case rel => exact ⟨k + 1, by omega, by go_num, Lib.hid (HSN.out _ _ _ _ HS3.out)⟩
                case measure => simp [intOf]; omega
              · have e1 : stepS S 1 l = S := by simp [stepS]
                have e2 : answer S 1 l = l ++ be8B (hash S) := by simp [answer]
                rw [e1, e2] at HSN
                have hT : wr.heap.size < W0.heap.size := by rw [HH.out]; simp
                rw [HH.out] at HS1 HFX hT
                clear e1 e2 g0 g1
                go_wp2_with (first
                  | (at_builtin; refine wpList_app_bytes rfl (.tmp 52) (.tmp 54) rfl (wr.alloc (.cells #[.int .i64 1, .slice a m cc] 30)).heap.size (.slice none 0 0) 0 [] rfl (World.ownsRow_nil _ _ _ _) a m cc l rfl HFX.out.1 HFX.out.2.2 (by omega) (Nat.le_refl _) ?_; intro v4 w4 hv4 hg4 _; have HB4 : Hid (Below (wr.alloc (.cells #[.int .i64 1, .slice a m cc] 30)).heap.size (wr.alloc (.cells #[.int .i64 1, .slice a m cc] 30)) w4) := Lib.hid (app_below (Below.refl _ _) (Nat.le_refl _) hg4); have HV4 : Hid (w4.ownsRow (wr.alloc (.cells #[.int .i64 1, .slice a m cc] 30)).heap.size 5 1 v4 m (byteCells l)) := Lib.hid (by simpa using hv4); clear hv4 hg4)
                  | (go_at_call 6; refine (hash_own (HS1.out.more HB4.out).own1 (by omega)).mono ?_; rintro e w5 ⟨rfl, hb5⟩; have HB5 := Lib.hid (HB4.out.trans (hb5.mono HB4.out.size)); have HV5 := Lib.hid (own_below HV4.out hb5); clear hb5)
                  | (go_at_call 8; refine (bytes_of (hash S) w5).mono ?_; rintro e w6 ⟨v6, rfl, hv6, hb6⟩; obtain ⟨g6, cp6, rfl, _, _⟩ := hv6.form (by omega); have HB6 := Lib.hid (HB5.out.trans (hb6.mono HB5.out.size)); have HV6 := Lib.hid (own_below HV5.out hb6); have HS6 := Lib.hid (own_sl8 hv6); clear HV5 hb6 hv6)
                  | (at_builtin; refine wpList_app_bytes rfl (.tmp 55) (.tmp 58) rfl (wr.alloc (.cells #[.int .i64 1, .slice a m cc] 30)).heap.size v4 m (byteCells l) rfl HV6.out (some ⟨g6, 0, none⟩) 8 cp6 (be8B (hash S)) rfl HS6.out (fun h => by cases h) (by omega) HB6.out.size ?_; intro v7 w2 hv7 hg7 _; obtain ⟨g5, cp5, rfl, hge, _⟩ := hv7.form (by omega); have HB7 := Lib.hid (HB6.out.grown hg7 HB6.out.size (fun k hk => (own_type HV6.out k hk).1)); have HV5 : Hid (w2.ownsRow (wr.alloc (.cells #[.int .i64 1, .slice a m cc] 30)).heap.size 5 1 (.slice (some ⟨g5, 0, none⟩) (m + 8) cp5) (m + 8) (byteCells l ++ be8 (hash S))) := Lib.hid (by rw [be8_bytes]; exact hv7); have HS2 := Lib.hid (HS1.out.more HB7.out); have HAP := Lib.hid (apart_new (g := g5) (c := cp5) (n := m + 8) HS1.out.own1 hge); clear hv7 hg7 hge)
                  | (at_builtin; refine wpList_append_lies _ rfl (.tmp 62) (.tmp 64) 28 rfl w.heap.size 22 iB (.slice none 0 0) 1 24 Tryd.underlying28 hiB hzB0 hzB1 hzB2 rfl (by decide) u4 k vals rfl (HS2.out.own2.alloc _) ⟨w2.heap.size, 0, none⟩ 1 1 [.slice (some ⟨g5, 0, none⟩) (m + 8) cp5] rfl rfl (one_new _ _ _ _ rfl) (by simp [Value.oneCell']) (by omega) (by unfold maxLen; omega) (by omega) (by simp; have := HS2.out.below.size; omega) (w2.heap.size + 1) (by simp) ?_; intro g cap w3 hown hgrow _ _; have HS3 := Lib.hid ((HS2.out.more ((Below.refl _ _).alloc (Nat.le_refl _) (.cells #[.slice (some ⟨g5, 0, none⟩) (m + 8) cp5] 22))).push (l := l ++ be8B (hash S)) (own_ans (HV5.out.alloc _) HLM.out HS1.out.below.size) HAP.out hgrow hown); clear hown hgrow))
                go_roundw
                case rel => exact ⟨k + 1, by omega, by go_num, Lib.hid (HSN.out _ _ _ _ HS3.out)⟩
                case measure => simp [intOf]; omega
              · have e1 : stepS S 2 l = [] := by simp [stepS]
                have e2 : answer S 2 l = [] := by simp [answer]
                rw [e1, e2] at HSN
                have HS2 := Lib.hid HS1.out.reset
                have hT : wr.heap.size < W0.heap.size := by rw [HH.out]; simp
                rw [HH.out] at HS2 hT
                clear e1 e2 g0 g1
                go_wp2_with (at_builtin; refine wpList_append_lies _ rfl (.tmp 62) (.tmp 64) 28 rfl w.heap.size 22 iB (.slice none 0 0) 1 24 Tryd.underlying28 hiB hzB0 hzB1 hzB2 rfl (by decide) u4 k vals rfl (HS2.out.own2.alloc _) ⟨wr.heap.size + 1, 0, none⟩ 1 1 [.slice none 0 0] rfl rfl (one_new _ _ _ _ (by simp)) (by simp [Value.oneCell']) (by omega) (by unfold maxLen; omega) (by omega) (by simp; have := HS2.out.below.size; simp at this; omega) (wr.heap.size + 1 + 1) (by simp) ?_; intro g cap w3 hown hgrow _ _; have HS3 := Lib.hid ((HS2.out.more ((Below.refl _ _).alloc (Nat.le_refl _) (.cells #[.slice none 0 0] 22))).push (l := []) (World.ownsRow_nil _ _ _ _) (.inl rfl) hgrow hown); clear hown hgrow)
                go_roundw
                case rel => exact ⟨k + 1, by omega, by go_num, Lib.hid (HSN.out _ _ _ _ HS3.out)⟩
                case measure => simp [intOf]; omega
      · obtain rfl : k = n := by omega
        obtain ⟨⟨vals, hSt⟩, hms⟩ := HA.out
        rw [List.take_of_length_le (by rw [HN.out]; exact Nat.le_refl _)] at hms
        rw [List.take_of_length_le (by rw [List.length_map, HN.out]; exact Nat.le_refl _)] at hSt
        have hbw : b < wr.heap.size := Nat.lt_of_lt_of_le hb hSt.below.size
        have C9 := told_form hn1 HN.out (hashedby_any b off k c xs wr HN.out hn1 hn0 hbw (HX.out.of (hSt.below.block b hb)) (fun x hx => (HF.out x hx).wide hSt.below.size (fun g hg => hSt.below.block g hg)) hms ((hSt.below.cell h00).trans HPP.out))
        obtain ⟨gw, capw, rfl, _, _⟩ := hSt.own2.form hn1
        have HC9 := Lib.hid C9
        have HS := Lib.hid hSt
        clear hSt hms C9 C7 HA
        go_wp2_with (go_at_call 9; refine HC9.out.mono ?_; rintro e w2 ⟨g2, cap2, vals2, rfl, ho2, hr2, hb2⟩; have HO2 := Lib.hid ho2; have HR2 := Lib.hid hr2; have HB2 := Lib.hid hb2; clear ho2 hr2 hb2)
        go_loopw [83] (fun ti W => ∃ j : Nat, j ≤ k ∧ ti = .int .i64 j ∧ Hid (Below w2.heap.size w2 W)) (fun ti _ => k - (intOf ti).toNat)
        case atStart => exact ⟨0, Nat.zero_le _, rfl, Lib.hid (Below.refl _ _)⟩
        case round =>
          obtain ⟨j, hj, rfl, HB⟩ := hrel
          by_cases hjk : j < k
          · have hSw := HS.out.more (HB2.out.trans (HB.out.mono HB2.out.size))
            obtain ⟨x, hx⟩ : ∃ x, xs[j]? = some x := ⟨_, List.getElem?_eq_getElem (by rw [HN.out]; exact hjk)⟩
            have hbw2 : b < wr.heap.size := Nat.lt_of_lt_of_le hb hSw.below.size
            obtain ⟨q0, _⟩ := (StepsAt.of (w' := wr) HX.out (hSw.below.block b hb)) j x.tri (by rw [List.getElem?_map, hx]; rfl)
            have hO2 := own_below HO2.out HB.out
            have hR2 := HR2.out.of (W' := wr) fun g cur _ hg => HB.out.block g (Array.getElem?_eq_some_iff.1 hg).1
            have hl1 : vals.length = k := by have := hSw.own2.1; omega
            have hl2 : vals2.length = k := by have := hO2.1; omega
            obtain ⟨v1, hv1⟩ : ∃ v, vals[j]? = some v := ⟨_, List.getElem?_eq_getElem (by omega)⟩
            obtain ⟨v2, hv2⟩ : ∃ v, vals2[j]? = some v := ⟨_, List.getElem?_eq_getElem (by omega)⟩
            have cw := cell_at hSw.own2 hv1
            have cg := cell_at hO2 hv2
            have hal := answers_at [] (xs.map Stp.pr) j x.pr (by rw [List.getElem?_map, hx]; rfl)
            have r1 := hSw.rows.2 j v1 _ hv1 hal
            have r2 := hR2.2 j v2 _ hv2 hal
            have hbe : Below w.heap.size w wr := hSw.below
            have HBE := Lib.hid hbe
            obtain ⟨kd, a, m, cc, l⟩ := x
            simp only [Stp.tri, Stp.pr] at q0 r1 r2
            clear hSw hO2 hR2 hl1 hl2 hv1 hv2 hal hx hbe
            generalize after [] (List.take j (List.map Stp.pr xs)) = S at r1 r2
            by_cases g1 : kd = 1
            · subst g1
              have e2 : answer S 1 l = l ++ be8B (hash S) := by simp [answer]
              rw [e2] at r1 r2
              generalize hL : l ++ be8B (hash S) = L at r1 r2
              have hL0 : 0 < L.length := by rw [← hL]; simp [be8B]
              have hS0 : wr.drew.cell? ⟨b, off + j * 2, none⟩ = some (.int .i64 1) ∧ wr.drew.cell? ⟨gw, j, none⟩ = some v1 ∧ wr.drew.cell? ⟨g2, j, none⟩ = some v2 ∧ (convert 22 9 v1).run Tryd.prog wr.drew = .ok (.string ⟨L.toArray⟩) wr.drew ∧ (convert 22 9 v2).run Tryd.prog wr.drew = .ok (.string ⟨L.toArray⟩) wr.drew :=
                ⟨q0, cw, cg, conv_own r1.drew hL0, conv_own r2.drew hL0⟩
              have hS1 : wr.cell? ⟨b, off + j * 2, none⟩ = some (.int .i64 1) ∧ wr.cell? ⟨gw, j, none⟩ = some v1 ∧ wr.cell? ⟨g2, j, none⟩ = some v2 ∧ (convert 22 9 v1).run Tryd.prog wr = .ok (.string ⟨L.toArray⟩) wr ∧ (convert 22 9 v2).run Tryd.prog wr = .ok (.string ⟨L.toArray⟩) wr :=
                ⟨q0, cw, cg, conv_own r1 hL0, conv_own r2 hL0⟩
              clear r1 r2 hL hL0 e2 q0 cw cg
              go_wp2_with fail
              go_region_held3 (fun W => W.cell? ⟨b, off + j * 2, none⟩ = some (.int .i64 1) ∧ W.cell? ⟨gw, j, none⟩ = some v1 ∧ W.cell? ⟨g2, j, none⟩ = some v2 ∧ (convert 22 9 v1).run Tryd.prog W = .ok (.string ⟨L.toArray⟩) W ∧ (convert 22 9 v2).run Tryd.prog W = .ok (.string ⟨L.toArray⟩) W)
                (first | exact hS0 | exact hS1) (first | fail)
              clear hS0 hS1
              go_wp2_with fail
              go_roundw
              case rel => exact ⟨j + 1, by omega, by go_num, Lib.hid (HB.out.trans ((Below.refl _ _).drew.mono HB.out.size))⟩
              case measure => simp [intOf]; omega
            · have z1 : ((kd : Int) == 1) = false := by simpa using g1
              clear r1 r2 g1
              go_wp2_with fail
              go_quiet (fail)
              go_wp2_with fail
              go_roundw
              case rel => exact ⟨j + 1, by omega, by go_num, Lib.hid (HB.out.trans ((Joins.below_draws _ _ _).mono HB.out.size))⟩
              case measure => simp [intOf]; omega
          · go_wp2_with fail
            go_ret
            exact ⟨rfl, HS.out.below.trans ((HB2.out.trans (HB.out.mono HB2.out.size)).mono HS.out.below.size)⟩
end Go.Proofs.YtonndmljendcoaaDoor
