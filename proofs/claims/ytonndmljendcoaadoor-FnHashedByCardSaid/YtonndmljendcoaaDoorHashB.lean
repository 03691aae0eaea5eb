/- xxhash.writeBlocks: the whole blocks of the bytes. -/
import Derived.Test.YtonndmljendcoaaDoorHashR
namespace Go.Proofs.YtonndmljendcoaaDoor
open Go.RowKit
set_option linter.unusedVariables false
set_option linter.unusedSimpArgs false
theorem ret_i64 {a b : Int} (h : a = b) : Ending.returned (.int .i64 a) = .returned (.int .i64 b) := by rw [h]
set_option maxRecDepth 100000 in
set_option maxHeartbeats 16000000 in
theorem blocks_any (B : Nat) (v1 : V4) (t : Nat) (mem : List UInt8) (nn : Nat) (b off n c : Nat) (l : List UInt8) (w : World) (h : Raw w B v1 t mem nn) (hbB : b ≠ B) (hn : l.length = n) (hn2 : n ≤ 100000) (hcap : n ≤ c) (hb : b < w.heap.size) (hc : Bytes w b off l) :
    Calls Tryd.prog 33 #[.pointer (some ⟨B, 0, none⟩), .slice (some ⟨b, off, none⟩) n c] w fun e w' => e = .returned (.int .i64 ((n - (restV l).length : Nat) : Int)) ∧ Raw w' B (runV v1 l) t mem nn ∧ Only B w w' := by
  have HN := Lib.hid hn
  have HC := Lib.hid hc
  have c0 := h.2.cell (dig0 v1 t mem nn)
  have c1 := h.2.cell (dig1 v1 t mem nn)
  have c2 := h.2.cell (dig2 v1 t mem nn)
  have c3 := h.2.cell (dig3 v1 t mem nn)
  have hBl := h.lt
  have HRaw := Lib.hid h
  have C8 : ∀ (W : World), Below w.heap.size w W → ∀ k, k + 8 ≤ n → ∀ o m cc, o = off + k → 8 ≤ m → Calls Tryd.prog 22 #[.slice (some ⟨b, o, none⟩) m cc] W fun e w' => e = .returned (.int .u64 ((le8 (l.drop k)).toNat : Int)) ∧ Below W.heap.size W w' := fun W hW k hk o m cc ho hm =>
    u64_any b o m cc (l.drop k) W hm (by simp [hn]; omega) ((hc.below hW hb).drop k o ho)
  have H8 := Lib.hid C8
  have H21 := Lib.hid (fun x y w => round_any x y w)
  clear hc hn C8 h
  have hp0 : Hid (Below w.heap.size w (w.drew)) := (Below.refl _ _).drew
  have hp1 : Hid (Below w.heap.size w w) := (Below.refl _ _)
  go_enter Tryd.func33, Tryd.ntmps33
  go_wp2_with fail
  go_quiet (fail)
  go_wp2_with fail
  go_loopw [1, 5, 6, 7, 8] (fun s0 s5 s6 s7 s8 wr => ∃ (at' o cc : Nat) (v : V4), at' ≤ n ∧ n - at' ≤ cc ∧ s0 = .slice (some ⟨b, o, none⟩) (n - at') cc ∧ (at' < n → o = off + at') ∧ s5 = .int .u64 (v.a.toNat : Int) ∧ s6 = .int .u64 (v.b.toNat : Int) ∧ s7 = .int .u64 (v.c.toNat : Int) ∧ s8 = .int .u64 (v.d.toNat : Int) ∧ Hid (runV v (l.drop at') = runV v1 l) ∧ Hid (restV (l.drop at') = restV l) ∧ w.heap.size ≤ wr.heap.size ∧ Hid (Below w.heap.size w wr)) (fun s0 _ _ _ _ _ => lenOf s0)
  case atStart => exact ⟨0, off, c, v1, Nat.zero_le _, hcap, rfl, fun _ => rfl, rfl, rfl, rfl, rfl, Lib.hid rfl, Lib.hid rfl, Nat.le_refl _, below_drewN w _⟩
  case round =>
    obtain ⟨at', o, cc, v, hat, hcc, rfl, ho, rfl, rfl, rfl, rfl, HV, HR, hsz3, HB⟩ := hrel
    obtain ⟨m, hm⟩ : ∃ m, m = n - at' := ⟨_, rfl⟩
    rw [← hm] at hcc ⊢
    have hm1 : at' + m ≤ n := by omega
    have hm2 : n ≤ at' + m := by omega
    clear hm
    by_cases h3 : 32 ≤ m
    · have hl32 : 32 ≤ (l.drop at').length := by simp; rw [HN.out]; omega
      have hv2 := HV.out
      rw [runV_more hl32, List.drop_drop] at hv2
      have hr2 := HR.out
      rw [restV_more hl32, List.drop_drop] at hr2
      have HV2 := Lib.hid hv2
      have HR2 := Lib.hid hr2
      have hoo := ho (by omega)
      have t7 : decide ((32 : Int) ≤ (m : Int)) = true := by simp; omega
      have n8 : ¬ m = 8 := by omega
      have n16 : ¬ m = 16 := by omega
      have n24 : ¬ m = 24 := by omega
      have n0 : ¬ m = 0 := by omega
      clear hv2 hr2 hl32 HV HR ho
      go_wp2_with fail
      refine (H8.out _ HB.out at' (by omega) _ _ _ (by omega) (by omega)).mono ?_
      rintro e w1 ⟨rfl, hb1⟩
      have HB1 := Lib.hid (below_chain HB.out hsz3 hb1)
      have hs1 := Nat.le_trans hsz3 hb1.size
      clear hb1
      go_wp2_with fail
      refine (H21.out _ _ _).mono ?_
      rintro e w' ⟨rfl, rfl⟩
      go_wp2_with fail
      refine (H8.out _ HB1.out (at' + 8) (by omega) _ _ _ (by omega) (by omega)).mono ?_
      rintro e w2 ⟨rfl, hb2⟩
      have HB2 := Lib.hid (below_chain HB1.out hs1 hb2)
      have hs2 := Nat.le_trans hs1 hb2.size
      clear hb2
      go_wp2_with fail
      refine (H21.out _ _ _).mono ?_
      rintro e w' ⟨rfl, rfl⟩
      go_wp2_with fail
      refine (H8.out _ HB2.out (at' + 16) (by omega) _ _ _ (by omega) (by omega)).mono ?_
      rintro e w3 ⟨rfl, hb3⟩
      have HB3 := Lib.hid (below_chain HB2.out hs2 hb3)
      have hs3 := Nat.le_trans hs2 hb3.size
      clear hb3
      go_wp2_with fail
      refine (H21.out _ _ _).mono ?_
      rintro e w' ⟨rfl, rfl⟩
      go_wp2_with fail
      refine (H8.out _ HB3.out (at' + 24) (by omega) _ _ _ (by omega) (by omega)).mono ?_
      rintro e w4 ⟨rfl, hb4⟩
      have HB4 := Lib.hid (below_chain HB3.out hs3 hb4)
      have hs4 := Nat.le_trans hs3 hb4.size
      clear hb4
      go_wp2_with fail
      refine (H21.out _ _ _).mono ?_
      rintro e w' ⟨rfl, rfl⟩
      by_cases hm32 : m = 32
      · subst hm32
        go_wp2_with fail
        go_roundw
        case rel => exact ⟨at' + 32, off + at', 0, stepV v (l.drop at'), by omega, by omega, by rw [show n - (at' + 32) = 0 by omega], by omega, rfl, by rw [step_b], by rw [step_c], by rw [step_d], HV2, HR2, hs4, HB4⟩
        case measure => simp [lenOf]
      · go_wp2_with fail
        go_roundw
        case rel => exact ⟨at' + 32, off + at' + 32, m - 32, stepV v (l.drop at'), by omega, by omega, by rw [show n - (at' + 32) = m - 32 by omega], by omega, rfl, by rw [step_b], by rw [step_c], by rw [step_d], HV2, HR2, hs4, HB4⟩
        case measure => simp [lenOf]; omega
    · have hl32 : ¬ 32 ≤ (l.drop at').length := by simp; rw [HN.out]; omega
      have hv2 := HV.out
      rw [runV_end hl32] at hv2
      have hr2 := HR.out
      rw [restV_end hl32] at hr2
      have t7 : decide ((32 : Int) ≤ (m : Int)) = false := by simp; omega
      have hrl : (restV l).length = m := by rw [← hr2]; simp; rw [HN.out]; omega
      have hRw : Raw wr B v1 t mem nn := ⟨HRaw.out.1, (HB.out.block B hBl).trans HRaw.out.2⟩
      have c0 := hRw.2.cell (dig0 v1 t mem nn)
      have c1 := hRw.2.cell (dig1 v1 t mem nn)
      have c2 := hRw.2.cell (dig2 v1 t mem nn)
      have c3 := hRw.2.cell (dig3 v1 t mem nn)
      have hf := hRw.2.free
      have HRw := Lib.hid hRw
      have HRL := Lib.hid hrl
      have HV2 := Lib.hid hv2
      clear hv2 hr2 HV HR ho hl32 hRw hrl
      go_wp2_with fail
      go_ret
      refine ⟨ret_i64 (by rw [HRL.out]; omega), ?_, ((((Only.of_below HB.out).trans (Only.set wr B 0 _)).trans (Only.set _ B 1 _)).trans (Only.set _ B 2 _)).trans (Only.set _ B 3 _)⟩
      rw [← HV2.out]
      exact (((HRw.out.s0 v.a).s1 v.b).s2 v.c).s3 v.d
end Go.Proofs.YtonndmljendcoaaDoor
