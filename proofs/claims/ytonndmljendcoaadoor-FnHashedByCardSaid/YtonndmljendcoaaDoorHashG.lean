/- What xxhash.Sum64 tells: the hash of the bytes. -/
import Derived.Test.YtonndmljendcoaaDoorHashS
namespace Go.Proofs.YtonndmljendcoaaDoor
open Go.RowKit
set_option linter.unusedVariables false
set_option linter.unusedSimpArgs false
theorem step_b (v : V4) (l : List UInt8) (k : Nat) : (stepV v (l.drop k)).b = rnd v.b (le8 (l.drop (k + 8))) := by simp only [stepV, List.drop_drop]
theorem step_c (v : V4) (l : List UInt8) (k : Nat) : (stepV v (l.drop k)).c = rnd v.c (le8 (l.drop (k + 16))) := by simp only [stepV, List.drop_drop]
theorem step_d (v : V4) (l : List UInt8) (k : Nat) : (stepV v (l.drop k)).d = rnd v.d (le8 (l.drop (k + 24))) := by simp only [stepV, List.drop_drop]
def lenOf : Value → Nat
  | .slice _ n _ => n
  | _ => 0
theorem below_chain {B : Nat} {w w1 w2 : World} (h : Below B w w1) (hB : B ≤ w1.heap.size) (h2 : Below w1.heap.size w1 w2) : Below B w w2 := h.trans (h2.mono hB)
set_option maxRecDepth 100000 in
set_option maxHeartbeats 16000000 in
theorem sum_any (b off n c : Nat) (l : List UInt8) (w : World) (hn : l.length = n) (hn2 : n ≤ 100000) (hcap : n ≤ c) (hb : b < w.heap.size) (hc : Bytes w b off l) (hp : w.cell? ⟨0, 0, none⟩ = some (.int .u64 11400714785074694791)) :
    Calls Tryd.prog 10 #[.slice (some ⟨b, off, none⟩) n c] w fun e w' => e = .returned (.int .u64 ((hash l).toNat : Int)) ∧ Below w.heap.size w w' := by
  have HN := Lib.hid hn
  have HC := Lib.hid hc
  have hsz : IntKind.u64.wrap (n : Int) = ((lW n).toNat : Int) := by rw [IntKind.wrap_u64, ← w_len n (by omega)]; omega
  have C8 : ∀ (W : World), Below w.heap.size w W → ∀ k, k + 8 ≤ n → ∀ o m cc, o = off + k → 8 ≤ m → Calls Tryd.prog 22 #[.slice (some ⟨b, o, none⟩) m cc] W fun e w' => e = .returned (.int .u64 ((le8 (l.drop k)).toNat : Int)) ∧ Below W.heap.size W w' := fun W hW k hk o m cc ho hm =>
    u64_any b o m cc (l.drop k) W hm (by simp [hn]; omega) ((hc.below hW hb).drop k o ho)
  have H8 := Lib.hid C8
  have H21 := Lib.hid (fun x y w => round_any x y w)
  have HE := Lib.hid (show hash l = eights (aW (startV l.length (runV v0 l)) (lW l.length)) (restV l) from rfl)
  clear hc hn C8
  go_enter Tryd.func10, Tryd.ntmps10
  go_upto_if 15 with fail
  go_cut [0, 4] (fun c0 c4 wx => ∃ (o rem cc : Nat) (r : List UInt8) (hh : UInt64), rem ≤ n ∧ rem ≤ cc ∧ c0 = .slice (some ⟨b, o, none⟩) rem cc ∧ c4 = .int .u64 (hh.toNat : Int) ∧ Hid (r.length = rem) ∧ Hid (Bytes w b o r) ∧ Hid (hh = startV l.length (runV v0 l)) ∧ Hid (restV l = r) ∧ w.heap.size ≤ wx.heap.size ∧ Below w.heap.size w wx)
  case first =>
    by_cases h32 : 32 ≤ n
    · rw [show decide ((32 : Int) ≤ (n : Int)) = true by simp; omega]
      have hp0 : Hid (Below w.heap.size w w) := Below.refl _ _
      have hst : (Value.int IntKind.u64 (IntKind.u64.wrap 25430182151971714518)) = .int .u64 (v0.a.toNat : Int) := rfl
      have hst2 : (Value.int IntKind.u64 (IntKind.u64.wrap (-11400714785074694791))) = .int .u64 (v0.d.toNat : Int) := rfl
      have HST := Lib.hid hst
      have HST2 := Lib.hid hst2
      clear hst hst2
      go_wp2_with fail
      go_loopw [0, 5, 6, 7, 8] (fun s0 s5 s6 s7 s8 wr => ∃ (at' o cc : Nat) (v : V4), at' ≤ n ∧ n - at' ≤ cc ∧ s0 = .slice (some ⟨b, o, none⟩) (n - at') cc ∧ (at' < n → o = off + at') ∧ s5 = .int .u64 (v.a.toNat : Int) ∧ s6 = .int .u64 (v.b.toNat : Int) ∧ s7 = .int .u64 (v.c.toNat : Int) ∧ s8 = .int .u64 (v.d.toNat : Int) ∧ Hid (runV v (l.drop at') = runV v0 l) ∧ Hid (restV (l.drop at') = restV l) ∧ w.heap.size ≤ wr.heap.size ∧ Hid (Below w.heap.size w wr)) (fun s0 _ _ _ _ _ => lenOf s0)
      case atStart => exact ⟨0, off, c, v0, Nat.zero_le _, hcap, rfl, fun _ => rfl, HST.out, rfl, rfl, HST2.out, Lib.hid rfl, Lib.hid rfl, Nat.le_refl _, hp0⟩
      case round =>
        obtain ⟨at', o, cc, v, hat, hcc, rfl, ho, rfl, rfl, rfl, rfl, HV, HR, hsz3, HB⟩ := hrel
        obtain ⟨m, hm⟩ : ∃ m, m = n - at' := ⟨_, rfl⟩
        rw [← hm] at hcc ⊢
        have hm1 : at' + m ≤ n := by omega
        have hm2 : n ≤ at' + m := by omega
        clear hm
        by_cases h3 : 32 ≤ m
        · have hl32 : 32 ≤ (l.drop at').length := by simp; rw [HN.out]; omega
          have hv2 := HV.out
          rw [runV_more hl32, List.drop_drop] at hv2
          have hr2 := HR.out
          rw [restV_more hl32, List.drop_drop] at hr2
          have HV2 := Lib.hid hv2
          have HR2 := Lib.hid hr2
          have hoo := ho (by omega)
          have t7 : decide ((32 : Int) ≤ (m : Int)) = true := by simp; omega
          have n8 : ¬ m = 8 := by omega
          have n16 : ¬ m = 16 := by omega
          have n24 : ¬ m = 24 := by omega
          have n0 : ¬ m = 0 := by omega
          clear hv2 hr2 hl32 HV HR ho
          go_wp2_with fail
          refine (H8.out _ HB.out at' (by omega) _ _ _ (by omega) (by omega)).mono ?_
          rintro e w1 ⟨rfl, hb1⟩
          have HB1 := Lib.hid (below_chain HB.out hsz3 hb1)
          have hs1 := Nat.le_trans hsz3 hb1.size
          clear hb1
          go_wp2_with fail
          refine (H21.out _ _ _).mono ?_
          rintro e w' ⟨rfl, rfl⟩
          go_wp2_with fail
          refine (H8.out _ HB1.out (at' + 8) (by omega) _ _ _ (by omega) (by omega)).mono ?_
          rintro e w2 ⟨rfl, hb2⟩
          have HB2 := Lib.hid (below_chain HB1.out hs1 hb2)
          have hs2 := Nat.le_trans hs1 hb2.size
          clear hb2
          go_wp2_with fail
          refine (H21.out _ _ _).mono ?_
          rintro e w' ⟨rfl, rfl⟩
          go_wp2_with fail
          refine (H8.out _ HB2.out (at' + 16) (by omega) _ _ _ (by omega) (by omega)).mono ?_
          rintro e w3 ⟨rfl, hb3⟩
          have HB3 := Lib.hid (below_chain HB2.out hs2 hb3)
          have hs3 := Nat.le_trans hs2 hb3.size
          clear hb3
          go_wp2_with fail
          refine (H21.out _ _ _).mono ?_
          rintro e w' ⟨rfl, rfl⟩
          go_wp2_with fail
          refine (H8.out _ HB3.out (at' + 24) (by omega) _ _ _ (by omega) (by omega)).mono ?_
          rintro e w4 ⟨rfl, hb4⟩
          have HB4 := Lib.hid (below_chain HB3.out hs3 hb4)
          have hs4 := Nat.le_trans hs3 hb4.size
          clear hb4
          go_wp2_with fail
          refine (H21.out _ _ _).mono ?_
          rintro e w' ⟨rfl, rfl⟩
          by_cases hm32 : m = 32
          · subst hm32
            go_wp2_with fail
            go_roundw
            case rel => exact ⟨at' + 32, off + at', 0, stepV v (l.drop at'), by omega, by omega, by rw [show n - (at' + 32) = 0 by omega], by omega, rfl, by rw [step_b], by rw [step_c], by rw [step_d], HV2, HR2, hs4, HB4⟩
            case measure => simp [lenOf]
          · go_wp2_with fail
            go_roundw
            case rel => exact ⟨at' + 32, off + at' + 32, m - 32, stepV v (l.drop at'), by omega, by omega, by rw [show n - (at' + 32) = m - 32 by omega], by omega, rfl, by rw [step_b], by rw [step_c], by rw [step_d], HV2, HR2, hs4, HB4⟩
            case measure => simp [lenOf]; omega
        · have hl32 : ¬ 32 ≤ (l.drop at').length := by simp; rw [HN.out]; omega
          have hv2 := HV.out
          rw [runV_end hl32] at hv2
          have hr2 := HR.out
          rw [restV_end hl32] at hr2
          have hadd := w_add
          have t7 : decide ((32 : Int) ≤ (m : Int)) = false := by simp; omega
          have HBY : Hid (Bytes w b o (l.drop at')) := by
            unfold Hid
            by_cases h0 : at' < n
            · exact HC.out.drop at' o (ho h0)
            · rw [List.drop_eq_nil_of_le (by rw [HN.out]; omega)]
              intro j hj
              simp at hj
          have HLEN : Hid ((l.drop at').length = m) := by unfold Hid; simp; rw [HN.out]; omega
          have HV2 := Lib.hid hv2
          have HR2 := Lib.hid hr2
          clear hv2 hr2 HV HR ho hl32
          go_wp2_with (first | (go_at_call 23; refine (rol1_any _ _).mono ?_; rintro e w' ⟨rfl, rfl⟩) | (go_at_call 24; refine (rol7_any _ _).mono ?_; rintro e w' ⟨rfl, rfl⟩) | (go_at_call 25; refine (rol12_any _ _).mono ?_; rintro e w' ⟨rfl, rfl⟩) | (go_at_call 26; refine (rol18_any _ _).mono ?_; rintro e w' ⟨rfl, rfl⟩) | (go_at_call 27; refine (merge_any _ _ _).mono ?_; rintro e w' ⟨rfl, rfl⟩) | fail)
          go_meet
          refine ⟨o, m, cc, l.drop at', joinV v, by omega, hcc, rfl, rfl, HLEN, HBY, ?_, Lib.hid HR2.out.symm, hsz3, HB.out⟩
          unfold Hid startV
          rw [if_pos (by rw [HN.out]; exact h32), ← HV2.out]
    · go_wp2_with fail
      go_meet
      refine ⟨off, n, c, l, P5, Nat.le_refl _, hcap, rfl, rfl, HN, HC, ?_, ?_, Nat.le_refl _, Below.refl _ _⟩
      · unfold Hid startV; rw [if_neg (by rw [HN.out]; exact h32)]
      · unfold Hid; rw [restV_end (by rw [HN.out]; exact h32)]
  case rest =>
    obtain ⟨o, rem, cc, r, hh, hrem, hcc, rfl, rfl, HRL, HBy, HH, HR, hsz2, hbl⟩ := hcut
    have h2 := w_add
    have hxor := w_xor
    have hmul := m_P1
    have hmul2 := m_P2
    have hadd4 := a_P4
    have hadd3 := a_P3
    have hres : eights (aW hh (lW n)) (r.drop 0) = hash l := by rw [HE.out, HH.out, HR.out, HN.out]; rfl
    have HRES := Lib.hid hres
    have HBW := Lib.hid hbl
    have C8 : ∀ (W : World), Below w.heap.size w W → ∀ k, k + 8 ≤ rem → ∀ p m cc, p = o + k → 8 ≤ m → Calls Tryd.prog 22 #[.slice (some ⟨b, p, none⟩) m cc] W fun e w' => e = .returned (.int .u64 ((le8 (r.drop k)).toNat : Int)) ∧ Below W.heap.size W w' := fun W hW k hk p m cc ho hm =>
      u64_any b p m cc (r.drop k) W hm (by simp [HRL.out]; omega) ((HBy.out.below hW hb).drop k p ho)
    have C4 : ∀ (W : World), Below w.heap.size w W → ∀ k, k + 4 ≤ rem → ∀ p m cc, p = o + k → 4 ≤ m → Calls Tryd.prog 29 #[.slice (some ⟨b, p, none⟩) m cc] W fun e w' => e = .returned (.int .u32 ((le4 (r.drop k)).toNat : Int)) ∧ Below W.heap.size W w' := fun W hW k hk p m cc ho hm =>
      u32_any b p m cc (r.drop k) W hm (by simp [HRL.out]; omega) ((HBy.out.below hW hb).drop k p ho)
    have HC8 := Lib.hid C8
    have HC4 := Lib.hid C4
    clear hres HE HH HR hbl C8 C4
    go_wp2_with fail
    go_loopw [4, 9] (fun s4 s9 wr => ∃ (k : Nat) (h : UInt64), k ≤ rem ∧ s9 = .int .i64 (k : Int) ∧ s4 = .int .u64 (h.toNat : Int) ∧ Hid (eights h (r.drop k) = hash l) ∧ w.heap.size ≤ wr.heap.size ∧ Hid (Below w.heap.size w wr)) (fun _ s9 _ => rem - (intOf s9).toNat)
    case atStart => exact ⟨0, _, Nat.zero_le _, rfl, rfl, HRES, hsz2, HBW⟩
    case round =>
      obtain ⟨k, h, hk, rfl, rfl, HQ, hsz3, HB⟩ := hrel
      by_cases hm : k + 8 ≤ rem
      · have hl8 : 8 ≤ (r.drop k).length := by simp; rw [HRL.out]; omega
        have hq2 := HQ.out
        rw [eights_more hl8, List.drop_drop] at hq2
        have HQ2 := Lib.hid hq2
        have t7 : decide ((k : Int) + 8 ≤ (rem : Int)) = true := by simp; omega
        have s6 : ¬ rem = k := by omega
        clear hq2 hl8 HQ
        go_wp2_with (first | (go_at_call 22; refine (HC8.out _ HB.out k hm _ _ _ (by omega) (by omega)).mono ?_; rintro e w1 ⟨rfl, hb1⟩) | (go_at_call 21; refine (H21.out zW _ _).mono ?_; rintro e w' ⟨rfl, rfl⟩) | (go_at_call 28; refine (rol27_any _ _).mono ?_; rintro e w' ⟨rfl, rfl⟩) | fail)
        have HB2 := Lib.hid (below_chain HB.out hsz3 hb1)
        have hs4 := hb1.size
        clear hb1
        go_roundw
        case rel => exact ⟨k + 8, _, hm, by go_num, rfl, HQ2, by omega, HB2⟩
        case measure => simp [intOf]; omega
      · have hl8 : ¬ 8 ≤ (r.drop k).length := by simp; rw [HRL.out]; omega
        have hq2 := HQ.out
        rw [eights_end hl8] at hq2
        have t7 : decide ((k : Int) + 8 ≤ (rem : Int)) = false := by simp; omega
        have HQ2 := Lib.hid hq2
        clear hq2 hl8 HQ
        go_upto_if 111 with fail
        go_cut [4, 9] (fun c4 c9 wx => ∃ (k' : Nat) (h' : UInt64), k' ≤ rem ∧ c9 = .int .i64 (k' : Int) ∧ c4 = .int .u64 (h'.toNat : Int) ∧ Hid (ones h' (r.drop k') = hash l) ∧ w.heap.size ≤ wx.heap.size ∧ Hid (Below w.heap.size w wx))
        case first =>
          by_cases hm4 : k + 4 ≤ rem
          · have hl4 : 4 ≤ (r.drop k).length := by simp; rw [HRL.out]; omega
            have hq3 := HQ2.out
            rw [fours, if_pos hl4, List.drop_drop] at hq3
            have HQ3 := Lib.hid hq3
            have t8 : decide ((k : Int) + 4 ≤ (rem : Int)) = true := by simp; omega
            have h32 : ∀ q : UInt64, IntKind.u64.wrap (q.toNat : Int) = (q.toNat : Int) := fun q => by rw [IntKind.wrap_u64]; have := q.toNat_lt; omega
            have s6 : ¬ rem = k := by omega
            clear hq3 hl4 HQ2
            go_wp2_with (first | (go_at_call 29; refine (HC4.out _ HB.out k hm4 _ _ _ (by omega) (by omega)).mono ?_; rintro e w1 ⟨rfl, hb1⟩) | (go_at_call 30; refine (rol23_any _ _).mono ?_; rintro e w' ⟨rfl, rfl⟩) | fail)
            have HB2 := Lib.hid (below_chain HB.out hsz3 hb1)
            have hs4 := hb1.size
            go_meet
            exact ⟨k + 4, _, hm4, by go_num, rfl, HQ3, by omega, HB2⟩
          · have hl4 : ¬ 4 ≤ (r.drop k).length := by simp; rw [HRL.out]; omega
            have hq3 := HQ2.out
            rw [fours, if_neg hl4] at hq3
            have HQ3 := Lib.hid hq3
            have t8 : decide ((k : Int) + 4 ≤ (rem : Int)) = false := by simp; omega
            go_wp2_with fail
            go_meet
            exact ⟨k, h, hk, rfl, rfl, HQ3, hsz3, HB⟩
        case rest =>
          obtain ⟨k2, h2', hk2, rfl, rfl, HQ4, hsz4, HB4⟩ := hcut
          go_wp2_with fail
          go_loopw [4, 9] (fun s4 s9 wr => ∃ (k : Nat) (h : UInt64), k ≤ rem ∧ s9 = .int .i64 (k : Int) ∧ s4 = .int .u64 (h.toNat : Int) ∧ Hid (ones h (r.drop k) = hash l) ∧ w.heap.size ≤ wr.heap.size ∧ Hid (Below w.heap.size w wr)) (fun _ s9 _ => rem - (intOf s9).toNat)
          case atStart => exact ⟨k2, _, hk2, rfl, rfl, HQ4, hsz4, HB4⟩
          case round =>
            obtain ⟨k, h, hk, rfl, rfl, HQ, hsz5, HB⟩ := hrel
            by_cases hm : k < rem
            · have hkl : k < r.length := by rw [HRL.out]; exact hm
              have hq2 := HQ.out
              rw [List.drop_eq_getElem_cons hkl, ones] at hq2
              have HQ5 := Lib.hid hq2
              have e0 := (HBy.out.below HB.out hb) k hkl
              obtain ⟨by', hby⟩ : ∃ x, x = r[k]'hkl := ⟨_, rfl⟩
              rw [← hby] at e0 HQ5
              obtain ⟨bn, hbn⟩ : ∃ x, x = by'.toNat := ⟨_, rfl⟩
              have hb256 : bn < 256 := by rw [hbn]; exact UInt8.toNat_lt _
              have hb5 : IntKind.u64.wrap ((bn : Int) * 2870177450012600261) = ((mW (bW by') P5).toNat : Int) := by rw [hbn]; exact m_byte by'
              rw [← hbn] at e0
              clear hq2 hby hkl HQ hbn
              go_wp2_with (first | (go_at_call 31; refine (rol11_any _ _).mono ?_; rintro e w' ⟨rfl, rfl⟩) | fail)
              go_roundw
              case rel => exact ⟨k + 1, _, hm, by go_num, rfl, HQ5, hsz5, HB⟩
              case measure => simp [intOf]; omega
            · have hq2 := HQ.out
              rw [List.drop_eq_nil_of_le (by rw [HRL.out]; omega), ones] at hq2
              have hs33 : ∀ a : UInt64, (a.toNat : Int) / 8589934592 = ((shW a 33).toNat : Int) := fun a => w_sh a 33
              have hs29 : ∀ a : UInt64, (a.toNat : Int) / 536870912 = ((shW a 29).toNat : Int) := fun a => w_sh a 29
              have hs32 : ∀ a : UInt64, (a.toNat : Int) / 4294967296 = ((shW a 32).toNat : Int) := fun a => w_sh a 32
              have hmul3 := m_P3
              have HQ5 := Lib.hid hq2
              clear hq2 HQ
              go_wp2_with fail
              go_ret
              exact ⟨ret_u64 (by rw [← HQ5.out]; rfl), HB.out⟩
end Go.Proofs.YtonndmljendcoaaDoor
