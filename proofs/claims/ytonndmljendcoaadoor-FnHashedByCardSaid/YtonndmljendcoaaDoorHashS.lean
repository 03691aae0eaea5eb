/- What spec.Hash tells: the hash of the bytes. -/
import Derived.Test.YtonndmljendcoaaDoorHashV
import Derived.Lib.EndianBits
namespace Go.Proofs.YtonndmljendcoaaDoor
open Go.RowKit
set_option linter.unusedVariables false
set_option linter.unusedSimpArgs false
attribute [local go_sem ↓] Go.wp_at_zero Go.wp_at_succ
theorem drew_below {B : Nat} {w w' : World} (h : Below B w w') : Below B w w'.drew := ⟨h.os, h.tape, h.output, h.size, h.block⟩
theorem m_byte (b : UInt8) : IntKind.u64.wrap ((b.toNat : Int) * 2870177450012600261) = ((mW (bW b) P5).toNat : Int) := by
  rw [w_byte b]; exact w_mul (bW b) P5
theorem or_at (i y x z : Nat) (hy : y < 2 ^ i) (hx : x % 2 ^ i = 0) (hx2 : x < 18446744073709551616 - 2 ^ i) (hz : z = y + x) : bits .or .u64 (y : Int) (x : Int) = (z : Int) := by
  rw [u64_or_nat y x (by omega) (by omega), Nat.or_comm, nat_join i x y hx hy, hz, Nat.add_comm]
theorem le4_at (l : List UInt8) (k : Nat) (h : k + 3 < l.length) : (le4 (l.drop k)).toNat = (l[k]'(by omega)).toNat + 256 * ((l[k + 1]'(by omega)).toNat + 256 * ((l[k + 2]'(by omega)).toNat + 256 * (l[k + 3]'h).toNat)) := by
  rw [le4_nat, List.drop_eq_getElem_cons (show k < l.length by omega), List.drop_eq_getElem_cons (show k + 1 < l.length by omega), List.drop_eq_getElem_cons (show k + 1 + 1 < l.length by omega), List.drop_eq_getElem_cons (show k + 1 + 1 + 1 < l.length by omega)]
  simp only [List.take_succ_cons, List.take_zero, Lib.leNat]
  rfl
set_option maxRecDepth 100000 in
set_option maxHeartbeats 16000000 in
theorem hash_any (b off n c : Nat) (l : List UInt8) (w : World) (hn : l.length = n) (hn2 : n ≤ 100000) (hcap : n ≤ c) (hb : b < w.heap.size) (hc : Bytes w b off l) :
    Calls Tryd.prog 6 #[.slice (some ⟨b, off, none⟩) n c] w fun e w' => e = .returned (.int .u64 ((hash l).toNat : Int)) ∧ Below w.heap.size w w' := by
  have HN := Lib.hid hn
  have HC := Lib.hid hc
  have hsz : IntKind.u64.wrap (n : Int) = ((lW n).toNat : Int) := by rw [IntKind.wrap_u64, ← w_len n (by omega)]; omega
  have C8 : ∀ (W : World), Below w.heap.size w W → ∀ k, k + 8 ≤ n → ∀ o m cc, o = off + k → m = n - k → Calls Tryd.prog 12 #[.slice (some ⟨b, o, none⟩) m cc] W fun e w' => e = .returned (.int .u64 ((le8 (l.drop k)).toNat : Int)) ∧ W = w' := fun W hW k hk o m cc ho hm =>
    eight_any b o m cc (l.drop k) W (by simp [hn]; omega) (by omega) (by omega) ((hc.below hW hb).drop k o ho)
  have H8 := Lib.hid C8
  have H1 := Lib.hid (fun x y w => step1_any x y w)
  have HT := Lib.hid (fun x n w h1 h2 => turn_any x n h1 h2 w)
  have HE := Lib.hid (show hash l = eights (aW (startV l.length (runV v0 l)) (lW l.length)) (restV l) from rfl)
  clear hc hn C8
  go_enter Tryd.func6, Tryd.ntmps6
  go_upto_if 17 with fail
  go_cut [4, 5] (fun c4 c5 wx => ∃ (at' : Nat) (hh : UInt64), at' ≤ n ∧ c5 = .int .i64 (at' : Int) ∧ c4 = .int .u64 (hh.toNat : Int) ∧ Hid (hh = startV l.length (runV v0 l)) ∧ Hid (restV l = l.drop at') ∧ Below w.heap.size w wx)
  case first =>
    by_cases h32 : 32 ≤ n
    · rw [show decide ((32 : Int) ≤ (n : Int)) = true by simp; omega]
      have hst : Vec (w.alloc (.cells #[.int .u64 (IntKind.u64.wrap 25430182151971714518), .int .u64 14029467366897019727, .int .u64 0, .int .u64 (IntKind.u64.wrap (-11400714785074694791))] 34)) w.heap.size 34 (words [v0.a, v0.b, v0.c, v0.d]) := by
        unfold Vec; rw [heap_at_new _ _ _ rfl]; rfl
      have HST := Lib.hid hst
      have HBL0 := Lib.hid ((Below.refl w.heap.size w).alloc (Nat.le_refl _) (.cells #[.int .u64 (IntKind.u64.wrap 25430182151971714518), .int .u64 14029467366897019727, .int .u64 0, .int .u64 (IntKind.u64.wrap (-11400714785074694791))] 34))
      clear hst
      go_wp2_with fail
      go_loopw [5] (fun s5 wr => ∃ (at' : Nat) (v : V4), at' ≤ n ∧ s5 = .int .i64 (at' : Int) ∧ Hid (runV v (l.drop at') = runV v0 l) ∧ Hid (restV (l.drop at') = restV l) ∧ Hid (Vec wr w.heap.size 34 (words [v.a, v.b, v.c, v.d])) ∧ Hid (Below w.heap.size w wr)) (fun s5 _ => n - (intOf s5).toNat)
      case atStart => exact ⟨0, v0, Nat.zero_le _, rfl, Lib.hid rfl, Lib.hid rfl, HST, HBL0⟩
      case round =>
        obtain ⟨at', v, hat, rfl, HV, HR, HW, HB⟩ := hrel
        by_cases hm : at' + 32 ≤ n
        · have hl32 : 32 ≤ (l.drop at').length := by simp; rw [HN.out]; omega
          have hv2 := HV.out
          rw [runV_more hl32, List.drop_drop] at hv2
          have hr2 := HR.out
          rw [restV_more hl32, List.drop_drop] at hr2
          have HV2 := Lib.hid hv2
          have HR2 := Lib.hid hr2
          have t7 : decide ((32 : Int) ≤ (n : Int) - (at' : Int)) = true := by simp; omega
          clear hv2 hr2 hl32 HV HR
          go_wp2_with fail
          obtain ⟨wo, rfl⟩ : ∃ wo : World, wo = wr := ⟨_, rfl⟩
          go_loopw [32] (fun s32 wr => ∃ i : Nat, i ≤ 4 ∧ s32 = .int .i64 (i : Int) ∧ Hid (Vec wr w.heap.size 34 (words (part v (l.drop at') i))) ∧ Hid (Below w.heap.size w wr)) (fun s32 _ => 4 - (intOf s32).toNat)
          case atStart => exact ⟨0, Nat.zero_le _, rfl, HW, HB⟩
          case round =>
            obtain ⟨i, hi, rfl, HW2, HB2⟩ := hrel
            by_cases hi4 : i < 4
            · have cv := HW2.out.cell (part_at v (l.drop at') i hi4)
              have fv := HW2.out.free i
              have hBlt := HW2.out.lt
              obtain ⟨x, hx⟩ : ∃ x, x = v.at i := ⟨_, rfl⟩
              rw [← hx] at cv
              have hps := part_set v (l.drop at') i hi4
              rw [step_at v _ i hi4, ← hx, List.drop_drop] at hps
              have HPS := Lib.hid hps
              have s1 : IntKind.i64.wrap (8 * (i : Int)) = 8 * (i : Int) := by rw [IntKind.wrap_i64]; omega
              have s2 : IntKind.i64.wrap ((at' : Int) + 8 * (i : Int)) = (at' : Int) + 8 * (i : Int) := by rw [IntKind.wrap_i64]; omega
              have s3 : (0 : Int) ≤ (at' : Int) + 8 * (i : Int) := by omega
              have s4 : (at' : Int) + 8 * (i : Int) ≤ (n : Int) := by omega
              have s5 : ((at' : Int) + 8 * (i : Int)).toNat = at' + 8 * i := by omega
              have s6 : ¬ c = at' + 8 * i := by omega
              have HBD : Hid (Below w.heap.size w wr.drew) := drew_below HB2.out
              clear hx hps
              go_wp2_with fail
              go_region_law
                (first
                  | (go_simp; go_at_call 12; refine (H8.out _ HBD.out (at' + 8 * i) (by omega) _ _ _ (by omega) (by omega)).mono ?_; rintro e w' ⟨rfl, rfl⟩)
                  | (go_simp; go_at_call 11; refine (H1.out _ _ _).mono ?_; rintro e w' ⟨rfl, m, rfl⟩))
              all_goals (
                have hv3 := HW2.out.set i (.int .u64 ((rnd x (le8 (l.drop (at' + 8 * i)))).toNat : Int))
                rw [HPS.out] at hv3
                have HV3 := Lib.hid hv3
                clear hv3 s1 s2 s3 s4 s5 s6 cv fv
                go_wp2_with fail
                go_roundw
                case rel => exact ⟨i + 1, by omega, by go_num, HV3, Lib.hid ((drewN_below HB2.out _).setCell (p := ⟨w.heap.size, i, none⟩) (Nat.le_refl _) _)⟩
                case measure => simp [intOf]; omega)
            · obtain rfl : i = 4 := by omega
              have hv4 := HW2.out
              rw [part_four] at hv4
              have HV4 := Lib.hid hv4
              clear hv4 HW2
              go_wp2_with fail
              go_roundw
              case rel => exact ⟨at' + 32, _, hm, by go_num, HV2, HR2, HV4, HB2⟩
              case measure => simp [intOf]; omega
        · have hl32 : ¬ 32 ≤ (l.drop at').length := by simp; rw [HN.out]; omega
          have hv2 := HV.out
          rw [runV_end hl32] at hv2
          have hr2 := HR.out
          rw [restV_end hl32] at hr2
          have t7 : decide ((32 : Int) ≤ (n : Int) - (at' : Int)) = false := by simp; omega
          have d0 := HW.out.cell (word_at v 0 (by decide))
          have d1 := HW.out.cell (word_at v 1 (by decide))
          have d2 := HW.out.cell (word_at v 2 (by decide))
          have d3 := HW.out.cell (word_at v 3 (by decide))
          have hadd := w_add
          have HV2 := Lib.hid hv2
          have HR2 := Lib.hid hr2
          clear hv2 hr2 HV HR
          go_wp2_with fail
          go_quiet ((go_at_call 13; exact Calls.quiet_of (HT.out _ _ _ (by decide) (by decide))))
          go_wp2_with fail
          have HWd : Hid (Vec (wr.drewN nq) w.heap.size 34 (words [v.a, v.b, v.c, v.d])) := HW.out
          have HBd : Hid (Below w.heap.size w (wr.drewN nq)) := drewN_below HB.out nq
          generalize wr.drewN nq = wq at HWd HBd ⊢
          clear d0 d1 d2 d3 HW HB
          have hxor := w_xor
          have hmul := m_P1
          have hadd4 := a_P4
          go_loopw [4, 64] (fun s4 s64 wr => ∃ i : Nat, i ≤ 4 ∧ s64 = .int .i64 (i : Int) ∧ s4 = .int .u64 ((joinUp v i).toNat : Int) ∧ Hid (Vec wr w.heap.size 34 (words [v.a, v.b, v.c, v.d])) ∧ Hid (Below w.heap.size w wr)) (fun _ s64 _ => 4 - (intOf s64).toNat)
          case atStart => exact ⟨0, Nat.zero_le _, rfl, rfl, HWd, HBd⟩
          case round =>
            obtain ⟨i, hi, rfl, rfl, HW2, HB2⟩ := hrel
            by_cases hi4 : i < 4
            · have cv := HW2.out.cell (word_at v i hi4)
              obtain ⟨x, hx⟩ : ∃ x, x = v.at i := ⟨_, rfl⟩
              obtain ⟨y, hy⟩ : ∃ y, y = joinUp v i := ⟨_, rfl⟩
              have hj : joinUp v (i + 1) = mrg y x := by rw [hx, hy]; rfl
              rw [← hx] at cv
              rw [← hy]
              have HJ := Lib.hid hj
              clear hx hy hj
              go_wp2_with (first | (go_at_call 11; refine (H1.out zW _ _).mono ?_; rintro e w' ⟨rfl, m, rfl⟩) | fail)
              go_roundw
              case rel => exact ⟨i + 1, by omega, by go_num, by rw [HJ.out]; rfl, HW2, Lib.hid (drewN_below HB2.out _)⟩
              case measure => simp [intOf]; omega
            · obtain rfl : i = 4 := by omega
              go_wp2_with fail
              go_meet
              refine ⟨at', joinUp v 4, hat, rfl, rfl, ?_, Lib.hid HR2.out.symm, HB2.out⟩
              unfold Hid startV
              rw [if_pos (by rw [HN.out]; exact h32), ← HV2.out]
              rfl
    · go_wp2_with fail
      go_meet
      refine ⟨0, P5, Nat.zero_le _, rfl, rfl, ?_, ?_, Below.refl _ _⟩
      · unfold Hid startV; rw [if_neg (by rw [HN.out]; exact h32)]
      · unfold Hid; rw [restV_end (by rw [HN.out]; exact h32)]; rfl
  case rest =>
    obtain ⟨at', hh, hat, rfl, rfl, HH, HR, hbl⟩ := hcut
    have h2 := w_add
    have hxor := w_xor
    have hmul := m_P1
    have hmul2 := m_P2
    have hadd4 := a_P4
    have hadd3 := a_P3
    have hres : eights (aW hh (lW n)) (l.drop at') = hash l := by rw [HE.out, HH.out, HR.out, HN.out]
    have HRES := Lib.hid hres
    have HBW := Lib.hid hbl
    clear hres HE HH HR hbl
    go_wp2_with fail
    go_loopw [4, 5] (fun s4 s5 wr => ∃ (k : Nat) (h : UInt64), k ≤ n ∧ s5 = .int .i64 (k : Int) ∧ s4 = .int .u64 (h.toNat : Int) ∧ Hid (eights h (l.drop k) = hash l) ∧ Hid (Below w.heap.size w wr)) (fun _ s5 _ => n - (intOf s5).toNat)
    case atStart => exact ⟨at', _, hat, rfl, rfl, HRES, HBW⟩
    case round =>
      obtain ⟨k, h, hk, rfl, rfl, HQ, HB⟩ := hrel
      by_cases hm : k + 8 ≤ n
      · have hl8 : 8 ≤ (l.drop k).length := by simp; rw [HN.out]; omega
        have hq2 := HQ.out
        rw [eights_more hl8, List.drop_drop] at hq2
        have HQ2 := Lib.hid hq2
        have t7 : decide ((8 : Int) ≤ (n : Int) - (k : Int)) = true := by simp; omega
        have s6 : ¬ c = k := by omega
        clear hq2 hl8 HQ
        go_wp2_with (first | (go_at_call 12; refine (H8.out _ HB.out k hm _ _ _ (by omega) (by omega)).mono ?_; rintro e w' ⟨rfl, rfl⟩) | (go_at_call 11; refine (H1.out zW _ _).mono ?_; rintro e w' ⟨rfl, m, rfl⟩) | (go_at_call 13; refine (HT.out _ 27 _ (by decide) (by decide)).mono ?_; rintro e w' ⟨rfl, m2, rfl⟩) | fail)
        go_roundw
        case rel => exact ⟨k + 8, _, hm, by go_num, rfl, HQ2, Lib.hid (drewN_below HB.out _)⟩
        case measure => simp [intOf]; omega
      · have hl8 : ¬ 8 ≤ (l.drop k).length := by simp; rw [HN.out]; omega
        have hq2 := HQ.out
        rw [eights_end hl8] at hq2
        have t7 : decide ((8 : Int) ≤ (n : Int) - (k : Int)) = false := by simp; omega
        have HQ2 := Lib.hid hq2
        clear hq2 hl8 HQ
        go_upto_if 100 with fail
        go_cut [4, 5] (fun c4 c5 wx => ∃ (k' : Nat) (h' : UInt64), k' ≤ n ∧ c5 = .int .i64 (k' : Int) ∧ c4 = .int .u64 (h'.toNat : Int) ∧ Hid (ones h' (l.drop k') = hash l) ∧ Hid (Below w.heap.size w wx))
        case first =>
          by_cases hm4 : k + 4 ≤ n
          · have hl4 : 4 ≤ (l.drop k).length := by simp; rw [HN.out]; omega
            have hq3 := HQ2.out
            rw [fours, if_pos hl4, List.drop_drop] at hq3
            have hcc := HC.out.below HB.out hb
            have hkl : k + 3 < l.length := by rw [HN.out]; omega
            have hle := le4_at l k hkl
            have e0 := hcc k (by omega)
            have e1 := hcc (k + 1) (by omega)
            have e2 := hcc (k + 2) (by omega)
            have e3 := hcc (k + 3) hkl
            have g0 : (l[k]'(by omega)).toNat < 256 := UInt8.toNat_lt _
            have g1 : (l[k + 1]'(by omega)).toNat < 256 := UInt8.toNat_lt _
            have g2 : (l[k + 2]'(by omega)).toNat < 256 := UInt8.toNat_lt _
            have g3 : (l[k + 3]'hkl).toNat < 256 := UInt8.toNat_lt _
            obtain ⟨b0, hb0⟩ : ∃ x, x = (l[k]'(by omega)).toNat := ⟨_, rfl⟩
            obtain ⟨b1, hb1⟩ : ∃ x, x = (l[k + 1]'(by omega)).toNat := ⟨_, rfl⟩
            obtain ⟨b2, hb2⟩ : ∃ x, x = (l[k + 2]'(by omega)).toNat := ⟨_, rfl⟩
            obtain ⟨b3, hb3⟩ : ∃ x, x = (l[k + 3]'hkl).toNat := ⟨_, rfl⟩
            rw [← hb0] at e0 g0
            rw [← hb1] at e1 g1
            rw [← hb2] at e2 g2
            rw [← hb3] at e3 g3
            rw [← hb0, ← hb1, ← hb2, ← hb3] at hle
            obtain ⟨X1, hX1⟩ : ∃ x, x = b1 * 256 := ⟨_, rfl⟩
            obtain ⟨X2, hX2⟩ : ∃ x, x = b2 * 65536 := ⟨_, rfl⟩
            obtain ⟨X3, hX3⟩ : ∃ x, x = b3 * 16777216 := ⟨_, rfl⟩
            obtain ⟨Y1, hY1⟩ : ∃ x, x = b0 + X1 := ⟨_, rfl⟩
            obtain ⟨Y2, hY2⟩ : ∃ x, x = Y1 + X2 := ⟨_, rfl⟩
            have y0 : IntKind.u64.wrap (b0 : Int) = (b0 : Int) := by rw [IntKind.wrap_u64]; omega
            have y1 : IntKind.u64.wrap (b1 : Int) = (b1 : Int) := by rw [IntKind.wrap_u64]; omega
            have y2 : IntKind.u64.wrap (b2 : Int) = (b2 : Int) := by rw [IntKind.wrap_u64]; omega
            have y3 : IntKind.u64.wrap (b3 : Int) = (b3 : Int) := by rw [IntKind.wrap_u64]; omega
            have v1 : IntKind.u64.wrap ((b1 : Int) * 256) = (X1 : Int) := by rw [IntKind.wrap_u64]; omega
            have v2 : IntKind.u64.wrap ((b2 : Int) * 65536) = (X2 : Int) := by rw [IntKind.wrap_u64]; omega
            have v3 : IntKind.u64.wrap ((b3 : Int) * 16777216) = (X3 : Int) := by rw [IntKind.wrap_u64]; omega
            have o1 : bits .or .u64 (b0 : Int) (X1 : Int) = (Y1 : Int) := or_at 8 b0 X1 _ (by omega) (by omega) (by omega) (by omega)
            have o2 : bits .or .u64 (Y1 : Int) (X2 : Int) = (Y2 : Int) := or_at 16 Y1 X2 _ (by omega) (by omega) (by omega) (by omega)
            have o3 : bits .or .u64 (Y2 : Int) (X3 : Int) = ((le4 (l.drop k)).toNat : Int) := or_at 24 Y2 X3 _ (by omega) (by omega) (by omega) (by rw [hle]; omega)
            have HQ3 := Lib.hid hq3
            have t8 : decide ((4 : Int) ≤ (n : Int) - (k : Int)) = true := by simp; omega
            have p1 : IntKind.i64.wrap ((k : Int) + 1) = (k : Int) + 1 := by rw [IntKind.wrap_i64]; omega
            have p2 : IntKind.i64.wrap ((k : Int) + 2) = (k : Int) + 2 := by rw [IntKind.wrap_i64]; omega
            have p3 : IntKind.i64.wrap ((k : Int) + 3) = (k : Int) + 3 := by rw [IntKind.wrap_i64]; omega
            have q0 : (0 : Int) ≤ (k : Int) := by omega
            have q1 : (k : Int) < (n : Int) := by omega
            have q2 : (0 : Int) ≤ (k : Int) + 1 := by omega
            have q3 : (k : Int) + 1 < (n : Int) := by omega
            have q4 : (0 : Int) ≤ (k : Int) + 2 := by omega
            have q5 : (k : Int) + 2 < (n : Int) := by omega
            have q6 : (0 : Int) ≤ (k : Int) + 3 := by omega
            have q7 : (k : Int) + 3 < (n : Int) := by omega
            have r1 : ((k : Int) + 1).toNat = k + 1 := by omega
            have r2 : ((k : Int) + 2).toNat = k + 2 := by omega
            have r3 : ((k : Int) + 3).toNat = k + 3 := by omega
            clear hX1 hX2 hX3 hY1 hY2 hle hb0 hb1 hb2 hb3 g0 g1 g2 g3 hcc hkl hq3 hl4 HQ2
            go_wp2_with fail
            go_quiet (fail)
            go_wp2_with (first | (go_at_call 13; refine (HT.out _ 23 _ (by decide) (by decide)).mono ?_; rintro e w' ⟨rfl, m2, rfl⟩) | fail)
            go_meet
            exact ⟨k + 4, _, hm4, by go_num, rfl, HQ3, Lib.hid (drewN_below HB.out _)⟩
          · have hl4 : ¬ 4 ≤ (l.drop k).length := by simp; rw [HN.out]; omega
            have hq3 := HQ2.out
            rw [fours, if_neg hl4] at hq3
            have HQ3 := Lib.hid hq3
            have t8 : decide ((4 : Int) ≤ (n : Int) - (k : Int)) = false := by simp; omega
            go_wp2_with fail
            go_meet
            exact ⟨k, h, hk, rfl, rfl, HQ3, HB⟩
        case rest =>
          obtain ⟨k2, h2', hk2, rfl, rfl, HQ4, HB4⟩ := hcut
          go_wp2_with fail
          go_loopw [4, 5] (fun s4 s5 wr => ∃ (k : Nat) (h : UInt64), k ≤ n ∧ s5 = .int .i64 (k : Int) ∧ s4 = .int .u64 (h.toNat : Int) ∧ Hid (ones h (l.drop k) = hash l) ∧ Hid (Below w.heap.size w wr)) (fun _ s5 _ => n - (intOf s5).toNat)
          case atStart => exact ⟨k2, _, hk2, rfl, rfl, HQ4, HB4⟩
          case round =>
            obtain ⟨k, h, hk, rfl, rfl, HQ, HB⟩ := hrel
            by_cases hm : k < n
            · have hkl : k < l.length := by rw [HN.out]; exact hm
              have hq2 := HQ.out
              rw [List.drop_eq_getElem_cons hkl, ones] at hq2
              have HQ5 := Lib.hid hq2
              have e0 := (HC.out.below HB.out hb) k hkl
              obtain ⟨by', hby⟩ : ∃ x, x = l[k]'hkl := ⟨_, rfl⟩
              rw [← hby] at e0 HQ5
              obtain ⟨bn, hbn⟩ : ∃ x, x = by'.toNat := ⟨_, rfl⟩
              have hb256 : bn < 256 := by rw [hbn]; exact UInt8.toNat_lt _
              have hb5 : IntKind.u64.wrap ((bn : Int) * 2870177450012600261) = ((mW (bW by') P5).toNat : Int) := by rw [hbn]; exact m_byte by'
              rw [← hbn] at e0
              clear hq2 hby hkl HQ hbn
              go_wp2_with (first | (go_at_call 13; refine (HT.out _ 11 _ (by decide) (by decide)).mono ?_; rintro e w' ⟨rfl, m2, rfl⟩) | fail)
              go_roundw
              case rel => exact ⟨k + 1, _, hm, by go_num, rfl, HQ5, Lib.hid (drewN_below HB.out _)⟩
              case measure => simp [intOf]; omega
            · have hq2 := HQ.out
              rw [List.drop_eq_nil_of_le (by rw [HN.out]; omega), ones] at hq2
              have hs33 : ∀ a : UInt64, (a.toNat : Int) / 8589934592 = ((shW a 33).toNat : Int) := fun a => w_sh a 33
              have hs29 : ∀ a : UInt64, (a.toNat : Int) / 536870912 = ((shW a 29).toNat : Int) := fun a => w_sh a 29
              have hs32 : ∀ a : UInt64, (a.toNat : Int) / 4294967296 = ((shW a 32).toNat : Int) := fun a => w_sh a 32
              have hmul3 := m_P3
              have HQ5 := Lib.hid hq2
              clear hq2 HQ
              go_wp2_with fail
              go_ret
              exact ⟨ret_u64 (by rw [← HQ5.out]; rfl), HB.out⟩
end Go.Proofs.YtonndmljendcoaaDoor
