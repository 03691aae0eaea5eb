/- xxhash's digest: Sum64. -/
import Derived.Test.YtonndmljendcoaaDoorHashW
namespace Go.Proofs.YtonndmljendcoaaDoor
open Go.RowKit
set_option linter.unusedVariables false
set_option linter.unusedSimpArgs false
theorem arr50' : Tryd.prog.arrayLen 50 = 32 := by kernel_rfl
theorem el50' : Tryd.prog.elem 50 = 5 := by kernel_rfl
theorem slice_piece (B i q : Nat) (hi : i + q ≤ 32) (hq : 0 < q) (W : World) : (Instr.sliceAt 50 (.pointer (some ⟨B, 5, none⟩)) (some (.int .i64 (i : Int))) (some (.int .i64 ((i : Int) + (q : Int)))) none).run Tryd.prog W = .ok (.slice (some ⟨B, 5 + i, none⟩) q (32 - i)) W := by
  rw [run_sliceAt_array_lh W 50 ⟨B, 5, none⟩ (by rw [Tryd.underlying50]; kernel_rfl) .i64 .i64 _ _ (by omega) (by omega) (by rw [arr50']; omega), el50', Tryd.sizeOf5, arr50']
  have h1 : ¬ 32 = i := by omega
  have h2 : ((i : Int) + (q : Int)).toNat = i + q := by omega
  have h3 : i + q - i = q := by omega
  simp only [Result.andThen, slicedAt, Int.toNat_natCast, h2, h3, if_neg h1, Nat.mul_one, Addr.add]
  by_cases h0 : i = 0 <;> simp [h0]
set_option maxRecDepth 100000 in
set_option maxHeartbeats 16000000 in
theorem sum64_any (B : Nat) (S : List UInt8) (w : World) (h : Dig w B S) (hS : S.length ≤ 100000) :
    Calls Tryd.prog 34 #[.pointer (some ⟨B, 0, none⟩)] w fun e w' => e = .returned (.int .u64 ((hash S).toNat : Int)) ∧ Below w.heap.size w w' := by
  obtain ⟨mem, hmem, hR⟩ := h
  obtain ⟨r, hr⟩ : ∃ r, r = restV S := ⟨_, rfl⟩
  have hr31 := rest_lt S
  rw [← hr] at hmem hR hr31
  obtain ⟨rem, hrem⟩ : ∃ rem, r.length = rem := ⟨_, rfl⟩
  obtain ⟨v, hv⟩ : ∃ v, v = runV v0 S := ⟨_, rfl⟩
  obtain ⟨T, hT⟩ : ∃ T, S.length = T := ⟨_, rfl⟩
  rw [← hv, hT] at hR
  rw [hrem] at hmem hR hr31
  rw [hT] at hS
  have hb : B < w.heap.size := hR.lt
  have HBy : Hid (Bytes w B 5 r) := fun j hj => by
    have h1 : j < mem.length := by rw [hR.1]; omega
    rw [hR.2.cell (digM v T mem rem j h1)]
    have : r[j] = mem[j] := by
      have := congrArg (·[j]?) hmem
      simp only [List.getElem?_take, if_pos (show j < rem by omega), List.getElem?_eq_getElem h1, List.getElem?_eq_getElem hj] at this
      exact (Option.some.inj this).symm
    rw [this]
  have c0 := hR.2.cell (dig0 v T mem rem)
  have c1 := hR.2.cell (dig1 v T mem rem)
  have c2 := hR.2.cell (dig2 v T mem rem)
  have c3 := hR.2.cell (dig3 v T mem rem)
  have c4 := hR.2.cell (dig4 v T mem rem)
  have c37 := hR.2.cell (dig37 v T mem rem hR.1)
  have HRaw := Lib.hid hR
  have HRL := Lib.hid hrem
  have hres : hash S = eights (aW (startV T v) (lW T)) r := by rw [← hT, hv, hr]; rfl
  have H21 := Lib.hid (fun x y w => round_any x y w)
  have HE := Lib.hid hres
  have hv3 : T < 32 → v.c = zW := fun h32 => by rw [hv, runV_end (by rw [hT]; omega)]; rfl
  have HV3 := Lib.hid hv3
  have hTw : (T : Int) = ((lW T).toNat : Int) := w_len T (by omega)
  have h2 := w_add
  clear hR hmem hr hrem hv hT hres hv3
  go_enter Tryd.func34, Tryd.ntmps34
  have HTN : Hid ((lW T).toNat = T) := by unfold Hid; omega
  go_upto_if 15 with fail
  go_cut [3] (fun c3 wx => ∃ hh : UInt64, c3 = .int .u64 (hh.toNat : Int) ∧ Hid (hh = startV T v) ∧ Hid (Raw wx B v T mem rem) ∧ Hid (Bytes wx B 5 r) ∧ w.heap.size ≤ wx.heap.size ∧ Hid (Below w.heap.size w wx))
  case first =>
    by_cases h32 : 32 ≤ T
    · rw [show decide ((32 : Int) ≤ ((lW T).toNat : Int)) = true by rw [HTN.out]; simp; omega]
      go_wp2_with fail
      go_quiet (fail)
      go_wp2_with (first | (go_at_call 23; refine (rol1_any _ _).mono ?_; rintro e w' ⟨rfl, rfl⟩) | (go_at_call 24; refine (rol7_any _ _).mono ?_; rintro e w' ⟨rfl, rfl⟩) | (go_at_call 25; refine (rol12_any _ _).mono ?_; rintro e w' ⟨rfl, rfl⟩) | (go_at_call 26; refine (rol18_any _ _).mono ?_; rintro e w' ⟨rfl, rfl⟩) | (go_at_call 27; refine (merge_any _ _ _).mono ?_; rintro e w' ⟨rfl, rfl⟩) | fail)
      go_meet
      exact ⟨joinV v, rfl, by unfold Hid startV; rw [if_pos h32], HRaw, HBy, Nat.le_refl _, below_drewN w _⟩
    · rw [show decide ((32 : Int) ≤ ((lW T).toNat : Int)) = false by rw [HTN.out]; simp; omega]
      have hp5 := a_P5
      go_wp2_with fail
      go_meet
      refine ⟨aW v.c P5, rfl, ?_, HRaw, HBy, Nat.le_refl _, Below.refl _ _⟩
      unfold Hid startV
      rw [if_neg h32, HV3.out (by omega)]
      rfl
  case rest =>
    obtain ⟨hh, rfl, HH, HR2, HBy2, hsz2, HB2⟩ := hcut
    have c4 := HR2.out.2.cell (dig4 v T mem rem)
    have c37 := HR2.out.2.cell (dig37 v T mem rem HR2.out.1)
    have hxor := w_xor
    have hmul := m_P1
    have hmul2 := m_P2
    have hadd4 := a_P4
    have hadd3 := a_P3
    have hres : eights (aW hh (lW T)) (r.drop 0) = hash S := by rw [HE.out, HH.out]; rfl
    have HRES := Lib.hid hres
    have C8 : ∀ (W : World), Below w.heap.size w W → ∀ k, k + 8 ≤ rem → ∀ p m cc, p = 5 + k → 8 ≤ m → Calls Tryd.prog 22 #[.slice (some ⟨B, p, none⟩) m cc] W fun e w' => e = .returned (.int .u64 ((le8 (r.drop k)).toNat : Int)) ∧ Below W.heap.size W w' := fun W hW k hk p m cc ho hm =>
      u64_any B p m cc (r.drop k) W hm (by simp [HRL.out]; omega) ((HBy.out.below hW hb).drop k p ho)
    have C4 : ∀ (W : World), Below w.heap.size w W → ∀ k, k + 4 ≤ rem → ∀ p m cc, p = 5 + k → 4 ≤ m → Calls Tryd.prog 29 #[.slice (some ⟨B, p, none⟩) m cc] W fun e w' => e = .returned (.int .u32 ((le4 (r.drop k)).toNat : Int)) ∧ Below W.heap.size W w' := fun W hW k hk p m cc ho hm =>
      u32_any B p m cc (r.drop k) W hm (by simp [HRL.out]; omega) ((HBy.out.below hW hb).drop k p ho)
    have HC8 := Lib.hid C8
    have HC4 := Lib.hid C4
    have HB3 : Hid (Below w.heap.size w (wc.drewN 1)) := drewN_below HB2.out 1
    clear hres HE HH C8 C4 c0 c1 c2 c3
    go_wp2_with fail
    go_quiet (fail)
    go_wp2_with fail
    go_loopw [3, 8] (fun s4 s9 wr => ∃ (k : Nat) (h : UInt64), k ≤ rem ∧ s9 = .int .i64 (k : Int) ∧ s4 = .int .u64 (h.toNat : Int) ∧ Hid (eights h (r.drop k) = hash S) ∧ w.heap.size ≤ wr.heap.size ∧ Hid (Below w.heap.size w wr)) (fun _ s9 _ => rem - (intOf s9).toNat)
    case atStart => exact ⟨0, _, Nat.zero_le _, rfl, rfl, HRES, hsz2, drewN_below HB2.out _⟩
    case round =>
      obtain ⟨k, h, hk, rfl, rfl, HQ, hsz3, HB⟩ := hrel
      by_cases hm : k + 8 ≤ rem
      · have hl8 : 8 ≤ (r.drop k).length := by simp; rw [HRL.out]; omega
        have hq2 := HQ.out
        rw [eights_more hl8, List.drop_drop] at hq2
        have HQ2 := Lib.hid hq2
        have t7 : decide ((k : Int) + 8 ≤ (rem : Int)) = true := by simp; omega
        have hsl : ∀ W : World, (Instr.sliceAt 50 (.pointer (some ⟨B, 5, none⟩)) (some (.int .i64 (k : Int))) (some (.int .i64 ((k : Int) + 8))) none).run Tryd.prog W = .ok (.slice (some ⟨B, 5 + k, none⟩) 8 (32 - k)) W := slice_piece B k 8 (by omega) (by omega)
        clear hq2 hl8 HQ
        go_wp2_with (first | (go_at_call 22; refine (HC8.out _ HB.out k hm _ _ _ (by omega) (by omega)).mono ?_; rintro e w1 ⟨rfl, hb1⟩) | (go_at_call 21; refine (H21.out zW _ _).mono ?_; rintro e w' ⟨rfl, rfl⟩) | (go_at_call 28; refine (rol27_any _ _).mono ?_; rintro e w' ⟨rfl, rfl⟩) | fail)
        have HB2 := Lib.hid (below_chain HB.out hsz3 hb1)
        have hs4 := hb1.size
        clear hb1
        go_roundw
        case rel => exact ⟨k + 8, _, hm, by go_num, rfl, HQ2, by omega, HB2⟩
        case measure => simp [intOf]; omega
      · have hl8 : ¬ 8 ≤ (r.drop k).length := by simp; rw [HRL.out]; omega
        have hq2 := HQ.out
        rw [eights_end hl8] at hq2
        have t7 : decide ((k : Int) + 8 ≤ (rem : Int)) = false := by simp; omega
        have HQ2 := Lib.hid hq2
        clear hq2 hl8 HQ
        go_upto_if 95 with fail
        go_cut [3, 8] (fun c4 c9 wx => ∃ (k' : Nat) (h' : UInt64), k' ≤ rem ∧ c9 = .int .i64 (k' : Int) ∧ c4 = .int .u64 (h'.toNat : Int) ∧ Hid (ones h' (r.drop k') = hash S) ∧ w.heap.size ≤ wx.heap.size ∧ Hid (Below w.heap.size w wx))
        case first =>
          by_cases hm4 : k + 4 ≤ rem
          · have hl4 : 4 ≤ (r.drop k).length := by simp; rw [HRL.out]; omega
            have hq3 := HQ2.out
            rw [fours, if_pos hl4, List.drop_drop] at hq3
            have HQ3 := Lib.hid hq3
            have t8 : decide ((k : Int) + 4 ≤ (rem : Int)) = true := by simp; omega
            have h32 : ∀ q : UInt64, IntKind.u64.wrap (q.toNat : Int) = (q.toNat : Int) := fun q => by rw [IntKind.wrap_u64]; have := q.toNat_lt; omega
            have hsl : ∀ W : World, (Instr.sliceAt 50 (.pointer (some ⟨B, 5, none⟩)) (some (.int .i64 (k : Int))) (some (.int .i64 ((k : Int) + 4))) none).run Tryd.prog W = .ok (.slice (some ⟨B, 5 + k, none⟩) 4 (32 - k)) W := slice_piece B k 4 (by omega) (by omega)
            clear hq3 hl4 HQ2
            go_wp2_with (first | (go_at_call 29; refine (HC4.out _ HB.out k hm4 _ _ _ (by omega) (by omega)).mono ?_; rintro e w1 ⟨rfl, hb1⟩) | (go_at_call 30; refine (rol23_any _ _).mono ?_; rintro e w' ⟨rfl, rfl⟩) | fail)
            have HB2 := Lib.hid (below_chain HB.out hsz3 hb1)
            have hs4 := hb1.size
            go_meet
            exact ⟨k + 4, _, hm4, by go_num, rfl, HQ3, by omega, HB2⟩
          · have hl4 : ¬ 4 ≤ (r.drop k).length := by simp; rw [HRL.out]; omega
            have hq3 := HQ2.out
            rw [fours, if_neg hl4] at hq3
            have HQ3 := Lib.hid hq3
            have t8 : decide ((k : Int) + 4 ≤ (rem : Int)) = false := by simp; omega
            go_wp2_with fail
            go_meet
            exact ⟨k, h, hk, rfl, rfl, HQ3, hsz3, HB⟩
        case rest =>
          obtain ⟨k2, h2', hk2, rfl, rfl, HQ4, hsz4, HB4⟩ := hcut
          go_wp2_with fail
          go_loopw [3, 8] (fun s4 s9 wr => ∃ (k : Nat) (h : UInt64), k ≤ rem ∧ s9 = .int .i64 (k : Int) ∧ s4 = .int .u64 (h.toNat : Int) ∧ Hid (ones h (r.drop k) = hash S) ∧ w.heap.size ≤ wr.heap.size ∧ Hid (Below w.heap.size w wr)) (fun _ s9 _ => rem - (intOf s9).toNat)
          case atStart => exact ⟨k2, _, hk2, rfl, rfl, HQ4, hsz4, HB4⟩
          case round =>
            obtain ⟨k, h, hk, rfl, rfl, HQ, hsz5, HB⟩ := hrel
            by_cases hm : k < rem
            · have hkl : k < r.length := by rw [HRL.out]; exact hm
              have hq2 := HQ.out
              rw [List.drop_eq_getElem_cons hkl, ones] at hq2
              have HQ5 := Lib.hid hq2
              have e0 := (HBy.out.below HB.out hb) k hkl
              obtain ⟨by', hby⟩ : ∃ x, x = r[k]'hkl := ⟨_, rfl⟩
              rw [← hby] at e0 HQ5
              obtain ⟨bn, hbn⟩ : ∃ x, x = by'.toNat := ⟨_, rfl⟩
              have hb256 : bn < 256 := by rw [hbn]; exact UInt8.toNat_lt _
              have hb5 : IntKind.u64.wrap ((bn : Int) * 2870177450012600261) = ((mW (bW by') P5).toNat : Int) := by rw [hbn]; exact m_byte by'
              rw [← hbn] at e0
              clear hq2 hby hkl HQ hbn
              go_wp2_with (first | (go_at_call 31; refine (rol11_any _ _).mono ?_; rintro e w' ⟨rfl, rfl⟩) | fail)
              go_roundw
              case rel => exact ⟨k + 1, _, hm, by go_num, rfl, HQ5, hsz5, HB⟩
              case measure => simp [intOf]; omega
            · have hq2 := HQ.out
              rw [List.drop_eq_nil_of_le (by rw [HRL.out]; omega), ones] at hq2
              have hs33 : ∀ a : UInt64, (a.toNat : Int) / 8589934592 = ((shW a 33).toNat : Int) := fun a => w_sh a 33
              have hs29 : ∀ a : UInt64, (a.toNat : Int) / 536870912 = ((shW a 29).toNat : Int) := fun a => w_sh a 29
              have hs32 : ∀ a : UInt64, (a.toNat : Int) / 4294967296 = ((shW a 32).toNat : Int) := fun a => w_sh a 32
              have hmul3 := m_P3
              have HQ5 := Lib.hid hq2
              clear hq2 HQ
              go_wp2_with fail
              go_ret
              exact ⟨ret_u64 (by rw [← HQ5.out]; rfl), HB.out⟩
end Go.Proofs.YtonndmljendcoaaDoor
