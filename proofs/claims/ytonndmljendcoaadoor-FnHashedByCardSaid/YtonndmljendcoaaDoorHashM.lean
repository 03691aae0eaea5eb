/- HashedBy's closure: the digest is led through the steps; the answers are gathered. -/
import Derived.Test.YtonndmljendcoaaDoorHashX
import Derived.Test.YtonndmljendcoaaDoorHashZ
import Derived.Test.YtonndmljendcoaaDoorHashU
import Derived.Deep.RegionWith
import Derived.Deep.RegionHeld3
namespace Go.Proofs.YtonndmljendcoaaDoor
open Go.RowKit
set_option linter.unusedVariables false
set_option linter.unusedSimpArgs false
theorem infoB : (Tryd.prog.info? 22).map (fun i => (i.zero, i.size, i.bytes)) = some (some (.slice none 0 0), 1, 24) := by kernel_rfl
theorem one_cell_of {w : World} {v : Value} {n : Nat} {xs : List Value} {base : Nat} (h : w.ownsRow base 5 1 v n xs) : ∀ u ∈ [v], u.oneCell' = true := by
  intro u hu
  simp at hu
  subst hu
  rcases h.2 with ⟨rfl, _⟩ | ⟨g, cap, cur, rfl, _⟩ <;> rfl
/-- What stands at the loop's head behind k steps. -/
def At (w : World) (P1 : Nat) (xs : List Stp) (k : Nat) (W : World) : Prop :=
  ∃ o vals, St w P1 (after [] ((xs.map Stp.pr).take k)) (answers [] ((xs.map Stp.pr).take k)) o k vals W
def Led (w : World) (P1 : Nat) (xs : List Stp) (e : Ending) (w' : World) : Prop := e = .returned (.tuple #[]) ∧ At w P1 xs xs.length w'
theorem after_len (S : List UInt8) (xs : List (Int × List UInt8)) (h : ∀ x ∈ xs, x.2.length ≤ 500) : (after S xs).length ≤ S.length + 500 * xs.length := by
  induction xs generalizing S with
  | nil => simp [after]
  | cons x r ih =>
    have h1 := ih (stepS S x.1 x.2) (fun y hy => h y (List.mem_cons_of_mem _ hy))
    have h2 := h x (List.mem_cons_self ..)
    have h3 : (stepS S x.1 x.2).length ≤ S.length + 500 := by unfold stepS; split <;> (try split) <;> simp <;> omega
    simp only [after, List.length_cons]
    omega
theorem At.snoc {w : World} {P1 : Nat} {xs : List Stp} {k : Nat} {x : Stp} (hx : xs[k]? = some x) (W : World) (o : Value) (vals : List Value)
    (h : St w P1 (stepS (after [] ((xs.map Stp.pr).take k)) x.kd x.l) (answers [] ((xs.map Stp.pr).take k) ++ [answer (after [] ((xs.map Stp.pr).take k)) x.kd x.l]) o (k + 1) vals W) : At w P1 xs (k + 1) W := by
  have e : (xs.map Stp.pr).take (k + 1) = (xs.map Stp.pr).take k ++ [(x.kd, x.l)] := by
    rw [List.take_add_one, List.getElem?_map, hx]; rfl
  refine ⟨o, vals, ?_⟩
  rw [e, after_snoc, answers_snoc]
  exact h
theorem St.far {w0 W W1 : World} {P1 k : Nat} {S : List UInt8} {ans : List (List UInt8)} {o : Value} {vals : List Value} (h : St w0 P1 S ans o k vals W) (hg : W.grownBy W1 o.ownBlock) : W1.heap[P1]? = some (.cells #[o] 28 (0, 0)) := by
  have hp := h.p1
  have hlt := h.lt
  exact (hg.block P1 (by omega) (fun e => by have := (own_type h.own P1 e.symm).1; omega)).trans h.out
/-- Bytes appended to nothing: in new blocks alone. -/
theorem app_below {W0 W w' : World} {H : Nat} (hb : Below H W0 W) (hH : H ≤ W.heap.size) (hg : W.grownBy w' none) : Below H W0 w' := hb.grown hg hH (fun k h => by cases h)
theorem sum_below {W0 W w1 w' : World} {H : Nat} {ob : Obj} {v : Value} {n : Nat} {xs : List Value} (hb : Below H W0 W) (hH : H ≤ W.heap.size) (hv : W.ownsRow H 5 1 v n xs) (h1 : Below W.heap.size W w1) (hg : (w1.alloc ob).grownBy w' v.ownBlock) : Below H W0 w' :=
  ((hb.trans (h1.mono hH)).alloc (Nat.le_trans hH h1.size) ob).grown hg (by have := h1.size; simp; omega) (fun k hk => (own_type hv k hk).1)
theorem own_ans {w : World} {g cp m base lo : Nat} {l : List UInt8} {h : UInt64} (hv : (w.alloc (.cells #[.slice (some ⟨g, 0, none⟩) (m + 8) cp] 22)).ownsRow base 5 1 (.slice (some ⟨g, 0, none⟩) (m + 8) cp) (m + 8) (byteCells l ++ be8 h)) (hl : l.length = m) (hb : lo ≤ base) :
    (w.alloc (.cells #[.slice (some ⟨g, 0, none⟩) (m + 8) cp] 22)).ownsRow lo 5 1 (.slice (some ⟨g, 0, none⟩) (m + 8) cp) (l ++ be8B h).length (byteCells (l ++ be8B h)) := by
  have e : (l ++ be8B h).length = m + 8 := by simp [be8B, hl]
  have e2 : byteCells (l ++ be8B h) = byteCells l ++ be8 h := by rw [be8_bytes]; simp [byteCells]
  rw [e, e2]
  exact own_low hv hb
theorem St.cellAt {w0 W : World} {P1 k : Nat} {S : List UInt8} {ans : List (List UInt8)} {o : Value} {vals : List Value} (h : St w0 P1 S ans o k vals W) : W.cell? ⟨P1, 0, none⟩ = some o := cell_of_one h.out
set_option maxRecDepth 100000 in
set_option maxHeartbeats 8000000 in
theorem closure_any (P0 P1 b off n c : Nat) (xs : List Stp) (w : World) (hn : xs.length = n) (hn0 : n ≤ 50) (hb : b < P1) (hP : P0 < P1) (hP1 : P1 < w.heap.size) (hx : StepsAt w b off (xs.map Stp.tri)) (hf : ∀ x ∈ xs, x.fits w P1) (hl : ∀ x ∈ xs, x.n ≤ 500)
    (h0 : w.cell? ⟨P0, 0, none⟩ = some (.slice (some ⟨b, off, none⟩) n c)) (h1 : w.heap[P1]? = some (.cells #[.slice none 0 0] 28 (0, 0))) (hp : w.cell? ⟨0, 0, none⟩ = some (.int .u64 11400714785074694791)) :
    Calls Tryd.prog 16 #[.pointer (some ⟨P0, 0, none⟩), .pointer (some ⟨P1, 0, none⟩)] w (Led w P1 xs) := by
  obtain ⟨iB, hiB, hzB0, hzB1, hzB2⟩ := info_parts infoB
  have C17 := Lib.hid (new_any w hp)
  have HP0 := Lib.hid h0
  have HPP := Lib.hid hp
  have H1 := Lib.hid h1
  have HX := Lib.hid hx
  have HF := Lib.hid hf
  have HL := Lib.hid hl
  have HN := Lib.hid hn
  clear h0 hp h1 hx hf hl hn
  go_enter Tryd.func16, Tryd.ntmps16
  go_wp2_with (go_at_call 17; refine C17.out.mono ?_; rintro e w1 ⟨rfl, hd, hb1⟩; have hc0 := (hb1.cell (p := ⟨P0, 0, none⟩) (by show P0 < _; omega)).trans HP0.out)
  have HD := Lib.hid hd
  have HB1 := Lib.hid hb1
  clear hd hb1 C17
  go_loopw [8] (fun ti W => ∃ k : Nat, k ≤ n ∧ ti = .int .i64 k ∧ Hid (At w P1 xs k W)) (fun ti _ => n - (intOf ti).toNat)
  case atStart => exact ⟨0, Nat.zero_le _, rfl, Lib.hid ⟨.slice none 0 0, [], ⟨HD.out, (HB1.out.block P1 hP1).trans H1.out, World.ownsRow_nil _ _ _ _, RowsAre.nil _ _, Only.of_below HB1.out, hP1⟩⟩⟩
  case round =>
    obtain ⟨k, hk, rfl, HA⟩ := hrel
    by_cases hkn : k < n
    · obtain ⟨x, hx⟩ : ∃ x, xs[k]? = some x := ⟨_, List.getElem?_eq_getElem (by rw [HN.out]; exact hkn)⟩
      have hmem : x ∈ xs := List.mem_of_getElem? hx
      obtain ⟨o, vals, hSt⟩ := HA.out
      have hlen : (after [] ((xs.map Stp.pr).take k)).length ≤ 500 * k := by
        have := after_len [] ((xs.map Stp.pr).take k) (fun y hy => by
          obtain ⟨z, hz, rfl⟩ := List.mem_map.1 (List.mem_of_mem_take hy)
          have h1 := HL.out z hz
          have h2 := (HF.out z hz).1.1
          show z.l.length ≤ 500
          omega)
        simp at this
        omega
      have hsnoc := At.snoc (w := w) (P1 := P1) hx
      have hfw := HF.out x hmem
      have hml := HL.out x hmem
      have hlt := hSt.lt
      have hbk := hSt.only
      have hsteps := StepsAt.of (w' := wr) HX.out (hbk.block b (by omega) (by omega))
      obtain ⟨q0, q1⟩ := hsteps k x.tri (by rw [List.getElem?_map, hx]; rfl)
      have hfx := hfw.of (w' := wr) (fun g hg => hbk.block g (by omega) (by omega)) hbk.size
      obtain ⟨kd, a, m, cc, l⟩ := x
      simp only [Stp.tri] at q0 q1
      simp only at hml hsnoc
      generalize after [] ((xs.map Stp.pr).take k) = S at *
      generalize answers [] ((xs.map Stp.pr).take k) = ans at *
      have hal : Below wr.heap.size wr (wr.alloc (.cells #[.int .i64 kd, .slice a m cc] 30)) := (Below.refl _ _).alloc (Nat.le_refl _) _
      have hS1 := hSt.below hal
      have hfx1 : (Stp.mk kd a m cc l).fits (wr.alloc (.cells #[.int .i64 kd, .slice a m cc] 30)) P1 := hfx.of (fun g hg => hal.block g (by omega)) (by simp)
      have HSN := Lib.hid hsnoc
      have HS := Lib.hid hSt
      have HFX := Lib.hid hfx1
      have HS1 := Lib.hid hS1
      clear hx hmem hsnoc hfw hsteps hbk hSt hfx hal hS1 hfx1
      by_cases hk0 : kd = 0
      · subst hk0
        have C18 := Lib.hid (write_any w.heap.size S a m cc l _ HS1.out.dig (by omega) (by omega) HFX.out.1 (fun g off' e hp => by have := HFX.out.2.1 g off' e hp; omega))
        go_wp2_with (first | (go_at_call 18; refine C18.out.mono ?_; rintro e w2 ⟨rfl, hd2, ho2⟩; have HS2 := Lib.hid (HS1.out.write hd2 ho2); have c2 := cell_of_one HS2.out.out; have f2 := free_of_one HS2.out.out; clear hd2 ho2) | (at_builtin; refine wpList_append_lies _ rfl (.tmp 25) (.tmp 26) 28 rfl (w.heap.size + 1) 22 iB (.slice none 0 0) 1 24 Tryd.underlying28 hiB hzB0 hzB1 hzB2 rfl (by decide) o k vals rfl (HS2.out.own.alloc _) ⟨w2.heap.size, 0, none⟩ 1 1 [.slice none 0 0] rfl rfl (one_new _ _ _ _ rfl) (by simp [Value.oneCell']) (by omega) (by unfold maxLen; omega) (by omega) (by simp; have := HS2.out.lt; omega) (w2.heap.size + 1) (by simp) ?_; intro g cap w3 hown hgrow _ _; have c3 := cell_of_one ((HS2.out.below ((Below.refl _ _).alloc (Nat.le_refl _) _)).far hgrow); have f3 := free_of_one ((HS2.out.below ((Below.refl _ _).alloc (Nat.le_refl _) _)).far hgrow); have HS3 := Lib.hid ((HS2.out.below ((Below.refl _ _).alloc (Nat.le_refl _) (.cells #[.slice none 0 0] 22))).push (l := []) (World.ownsRow_nil _ _ _ _) hgrow hown); clear hown hgrow))
        go_roundw
        case rel => exact ⟨k + 1, by omega, by go_num, Lib.hid (HSN.out _ _ _ (by simpa [stepS, answer] using HS3.out))⟩
        case measure => simp [intOf]; omega
      · have t0 : ((kd : Int) == 0) = false := by simpa using hk0
        by_cases hk1 : kd = 1
        · subst hk1
          obtain ⟨W0, hW0⟩ : ∃ W0, W0 = wr.alloc (.cells #[.int .i64 1, .slice a m cc] 30) := ⟨_, rfl⟩
          have hT1 : W0.cell? ⟨wr.heap.size, 1, none⟩ = some (.slice a m cc) := by rw [hW0]; exact World.cell?_alloc_mark wr _ 30 (0, 0) 1
          have hT : wr.heap.size < W0.heap.size := by rw [hW0]; simp
          rw [← hW0] at HFX HS1
          have e1 : stepS S 1 l = S := by simp [stepS]
          have e2 : answer S 1 l = l ++ be8B (hash S) := by simp [answer]
          rw [e1, e2] at HSN
          have hlm : l.length = m := HFX.out.1.1
          have HLM := Lib.hid hlm
          have HH := Lib.hid hW0
          have HT1 := Lib.hid hT1
          clear hk0 e1 e2 hlm hW0 hT1
          go_wp2_with fail
          rw [← HH.out]
          clear HH
          have c0 := HS1.out.cellAt
          have hT1 := HT1.out
          have HA0 : Hid (Below W0.heap.size W0 W0.drew) := Lib.hid (Below.refl _ _).drew
          have k0 := (HS1.out.below HA0.out).cellAt
          go_region_law
            (first
              | (refine step_app_bytes rfl (.const _) (.tmp 33) rfl W0.heap.size (.slice none 0 0) 0 [] rfl (World.ownsRow_nil _ _ _ _) a m cc l rfl (HFX.out.1.below HA0.out) HFX.out.2.2 (by omega) HA0.out.size ?_; intro v4 w4 hv4 hg4 _; have HB4 : Hid (Below W0.heap.size W0 w4) := Lib.hid (app_below HA0.out HA0.out.size hg4); have HV4 : Hid (w4.ownsRow W0.heap.size 5 1 v4 m (byteCells l)) := Lib.hid (by simpa using hv4); have k4 := (HS1.out.below HB4.out).cellAt; clear hv4 hg4)
              | (go_simp; go_at_call 19; refine (sum_dig w.heap.size W0.heap.size S v4 m (byteCells l) w4 (HS1.out.below HB4.out).dig (by omega) (by omega) (fun w1 hb => own_below HV4.out hb) HB4.out.size).mono ?_; rintro e w5 ⟨v5, rfl, hv5, w6, ob, hb6, hg6⟩; obtain ⟨g5, cp5, rfl, _, _⟩ := hv5.form (by omega); have HB5 : Hid (Below W0.heap.size W0 w5) := Lib.hid (sum_below HB4.out HB4.out.size HV4.out hb6 hg6); have HV5 := Lib.hid hv5; have k5 := (HS1.out.below HB5.out).cellAt; have z5 : P1 < w5.heap.size := (by have := HB5.out.size; omega); clear hv5 hb6 hg6)
              | (refine step_append_lies _ (by rfl) _ _ _ (by rfl) (w.heap.size + 1) 22 iB (.slice none 0 0) 1 24 Tryd.underlying28 hiB hzB0 hzB1 hzB2 rfl (by decide) o k vals (by rfl) ((HS1.out.below HB5.out).own.alloc _) ⟨w5.heap.size, 0, none⟩ 1 1 [.slice (some ⟨g5, 0, none⟩) (m + 8) cp5] (by rfl) (by rfl) (one_new _ _ _ _ rfl) (one_cell_of HV5.out)
                  (by omega) (by unfold maxLen; omega) (by omega) (by simp; have := HB5.out.size; omega) (w5.heap.size + 1) (by simp) ?_; intro g cap w7 hown hgrow _ _; have HS6 := Lib.hid ((HS1.out.below HB5.out).below ((Below.refl _ _).alloc (Nat.le_refl _) (.cells #[.slice (some ⟨g5, 0, none⟩) (m + 8) cp5] 22))); have k7 := cell_of_one (HS6.out.far hgrow); have f7 := free_of_one (HS6.out.far hgrow); have HO7 := Lib.hid hown; have HG7 := Lib.hid hgrow; clear hown hgrow))
          all_goals (
            have HS7 : Hid (St w P1 S (ans ++ [l ++ be8B (hash S)]) (.slice (some ⟨g, 0, none⟩) (k + 1) cap) (k + 1) (vals ++ [.slice (some ⟨g5, 0, none⟩) (m + 8) cp5]) (w7.setCell ⟨P1, 0, none⟩ (.slice (some ⟨g, 0, none⟩) (k + 1) cap))) := Lib.hid (HS6.out.push (own_ans (HV5.out.alloc _) HLM.out (by omega)) HG7.out HO7.out)
            clear HS6 HG7 HO7 HV5 HV4 HB4 HB5 k7 f7 k5 k4 k0 c0 hT1 HT1
            go_wp2_with fail
            go_roundw
            case rel => exact ⟨k + 1, by omega, by go_num, Lib.hid (HSN.out _ _ _ HS7.out)⟩
            case measure => simp [intOf]; omega)
        · have t1 : ((kd : Int) == 1) = false := by simpa using hk1
          have e1 : stepS S kd l = [] := by simp [stepS, hk0, hk1]
          have e2 : answer S kd l = [] := by simp [answer, hk1]
          rw [e1, e2] at HSN
          clear e1 e2 hk0 hk1
          have hr : Hid (Calls Tryd.prog 20 #[.pointer (some ⟨w.heap.size, 0, none⟩)] (wr.alloc (.cells #[.int .i64 kd, .slice a m cc] 30)) fun e w' => e = .returned (.tuple #[]) ∧ Dig w' w.heap.size [] ∧ Only w.heap.size (wr.alloc (.cells #[.int .i64 kd, .slice a m cc] 30)) w') := by
            obtain ⟨mem, _, hR⟩ := HS1.out.dig
            exact Lib.hid (reset_any w.heap.size _ _ mem _ _ hR ((World.cell?_of_block (w := w) (a := ⟨0, 0, none⟩) (HS1.out.only.block 0 (by omega) (by omega))).trans HPP.out) (by omega))
          go_wp2_with (first | (go_at_call 20; refine hr.out.mono ?_; rintro e w2 ⟨rfl, hd2, ho2⟩; have HS2 := Lib.hid (HS1.out.write hd2 ho2); have c2 := cell_of_one HS2.out.out; have f2 := free_of_one HS2.out.out; clear hd2 ho2) | (at_builtin; refine wpList_append_lies _ rfl (.tmp 16) (.tmp 17) 28 rfl (w.heap.size + 1) 22 iB (.slice none 0 0) 1 24 Tryd.underlying28 hiB hzB0 hzB1 hzB2 rfl (by decide) o k vals rfl (HS2.out.own.alloc _) ⟨w2.heap.size, 0, none⟩ 1 1 [.slice none 0 0] rfl rfl (one_new _ _ _ _ rfl) (by simp [Value.oneCell']) (by omega) (by unfold maxLen; omega) (by omega) (by simp; have := HS2.out.lt; omega) (w2.heap.size + 1) (by simp) ?_; intro g cap w3 hown hgrow _ _; have c3 := cell_of_one ((HS2.out.below ((Below.refl _ _).alloc (Nat.le_refl _) _)).far hgrow); have f3 := free_of_one ((HS2.out.below ((Below.refl _ _).alloc (Nat.le_refl _) _)).far hgrow); have HS3 := Lib.hid ((HS2.out.below ((Below.refl _ _).alloc (Nat.le_refl _) (.cells #[.slice none 0 0] 22))).push (l := []) (World.ownsRow_nil _ _ _ _) hgrow hown); clear hown hgrow))
          go_roundw
          case rel => exact ⟨k + 1, by omega, by go_num, Lib.hid (HSN.out _ _ _ HS3.out)⟩
          case measure => simp [intOf]; omega
    · obtain rfl : k = n := by omega
      go_wp2_with fail
      go_end0
      exact ⟨rfl, by rw [HN.out]; exact HA.out⟩
end Go.Proofs.YtonndmljendcoaaDoor
