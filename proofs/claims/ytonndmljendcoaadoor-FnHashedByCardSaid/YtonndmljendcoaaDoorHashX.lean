/- xxhash's digest: Write, whole. -/
import Derived.Test.YtonndmljendcoaaDoorHashW
namespace Go.Proofs.YtonndmljendcoaaDoor
open Go.RowKit
set_option linter.unusedVariables false
set_option linter.unusedSimpArgs false
theorem rest_drop (l : List UInt8) : restV l = l.drop (l.length - (restV l).length) := by
  generalize hn : l.length = n
  induction n using Nat.strongRecOn generalizing l with
  | ind n ih =>
    by_cases h : 32 ≤ l.length
    · have h1 := ih _ (by simp; omega) (l.drop 32) rfl
      have h2 := rest_le (l.drop 32)
      rw [restV_more h]
      rw [List.drop_drop] at h1
      simp only [List.length_drop] at h1 h2
      exact h1.trans (congrArg (List.drop · l) (by omega))
    · rw [restV_end h, hn, Nat.sub_self]; rfl
theorem run_block (v : V4) (M d : List UInt8) (h : M.length = 32) : runV v (M ++ d) = runV (stepV v M) d ∧ restV (M ++ d) = restV d := by
  have h1 := run_rest v M d
  have e0 : M.drop 32 = [] := List.drop_eq_nil_of_le (by omega)
  have e1 : runV v M = stepV v M := by rw [runV_more (by omega), e0, runV_end (by simp)]
  have e2 : restV M = [] := by rw [restV_more (by omega), e0, restV_end (by simp)]
  rw [e1, e2, List.nil_append] at h1
  exact h1
theorem arr50 : Tryd.prog.arrayLen 50 = 32 := by kernel_rfl
theorem el50 : Tryd.prog.elem 50 = 5 := by kernel_rfl
theorem slice_mem (B k : Nat) (hk : k < 32) (W : World) : (Instr.sliceAt 50 (.pointer (some ⟨B, 5, none⟩)) (some (.int .i64 (k : Int))) none none).run Tryd.prog W = .ok (.slice (some ⟨B, 5 + k, none⟩) (32 - k) (32 - k)) W := by
  rw [run_sliceAt_array_l W 50 ⟨B, 5, none⟩ (by rw [Tryd.underlying50]; kernel_rfl) .i64 k (by omega) (by rw [arr50]; omega), el50, Tryd.sizeOf5, arr50]
  have : ¬ 32 = k := by omega
  simp only [Result.andThen, slicedAt, Int.toNat_natCast, if_neg this, Nat.mul_one, Addr.add]
  by_cases h0 : k = 0 <;> simp [h0]
theorem slice_mid (B i : Nat) (hi : i < 4) (W : World) : (Instr.sliceAt 50 (.pointer (some ⟨B, 5, none⟩)) (some (.int .i64 ((8 * i : Nat) : Int))) (some (.int .i64 ((8 * i + 8 : Nat) : Int))) none).run Tryd.prog W = .ok (.slice (some ⟨B, 5 + 8 * i, none⟩) 8 (32 - 8 * i)) W := by
  rw [run_sliceAt_array_lh W 50 ⟨B, 5, none⟩ (by rw [Tryd.underlying50]; kernel_rfl) .i64 .i64 _ _ (by omega) (by omega) (by rw [arr50]; omega), el50, Tryd.sizeOf5, arr50]
  have : ¬ 32 = 8 * i := by omega
  simp only [Result.andThen, slicedAt, Int.toNat_natCast, if_neg this, Nat.mul_one, Addr.add]
  have e : 8 * i + 8 - 8 * i = 8 := by omega
  rw [e]
  by_cases h0 : 8 * i = 0 <;> simp [h0]
theorem slice_tail (b off n c k : Nat) (hk : k < 32) (h1 : 32 ≤ k + n) (h2 : n ≤ c) : ∃ off2, (∀ W : World, (Instr.slice 22 (.slice (some ⟨b, off, none⟩) n c) (some (.int .i64 (32 - (k : Int)))) none none).run Tryd.prog W = .ok (.slice (some ⟨b, off2, none⟩) (n - (32 - k)) (c - (32 - k))) W) ∧ (0 < n - (32 - k) → off2 = off + (32 - k)) := by
  have key : ∀ W : World, (Instr.slice 22 (.slice (some ⟨b, off, none⟩) n c) (some (.int .i64 (32 - (k : Int)))) none none).run Tryd.prog W = .ok (sliced (some ⟨b, off, none⟩) (32 - k) n c 1) W := by
    intro W
    rw [run_slice_l W 22 (some ⟨b, off, none⟩) n c (by rw [Tryd.underlying22]; kernel_rfl) .i64 _ (by omega) (by omega)]
    have e1 : Tryd.prog.elem 22 = 5 := by kernel_rfl
    have e2 : (32 - (k : Int)).toNat = 32 - k := by omega
    rw [e1, Tryd.sizeOf5, e2]
    rfl
  by_cases h : c = 32 - k
  · refine ⟨off, fun W => (key W).trans ?_, fun h3 => by omega⟩
    simp only [sliced, if_pos h]
  · refine ⟨off + (32 - k), fun W => (key W).trans ?_, fun _ => rfl⟩
    simp only [sliced, if_neg h, Option.map_some, Addr.add, Nat.mul_one]
    have : ¬ 32 - k = 0 := by omega
    simp [this]
theorem run_copy_dig {w : World} {B : Nat} {v : V4} {t : Nat} {mem : List UInt8} {n : Nat} (hR : Raw w B v t mem n) (m sCap b off : Nat) (l : List UInt8) (hl : l.length = m) (hm : m ≤ 32) (hby : Bytes w b off l) :
    ∃ w', (Builtin.copy_ #[22, 22] 3 #[.slice (some ⟨B, 5, none⟩) 32 32, .slice (some ⟨b, off, none⟩) m sCap]).run Tryd.prog w = .ok (.int .i64 (m : Int)) w' ∧ Raw w' B v t (splice mem 0 l) n ∧ Only B w w' := by
  have hsz : (Tryd.prog.info? 5).map (·.size) = some 1 := by kernel_rfl
  have hmin : Nat.min m 32 = m := Nat.min_eq_left hm
  have e : (byteCells l).length = m := by simp [byteCells, hl]
  have hn : (byteCells l).length = Nat.min m 32 := by rw [e, hmin]
  by_cases h0 : m = 0
  · have e0 : l = [] := List.eq_nil_of_length_eq_zero (by omega)
    subst h0 e0
    exact ⟨w, run_copy_none (P := Tryd.prog) w 22 22 3 5 _ _ 32 32 0 sCap Tryd.underlying22 hsz (by simp), by simpa [splice] using hR, Only.refl _ _⟩
  · have htk : l.take 32 = l := List.take_of_length_le (by omega)
    have hsrc := bytes_at hby 32
    rw [htk] at hsrc
    have hrun := run_copy_row (P := Tryd.prog) w 22 22 3 5 B 5 32 32 ⟨b, off, none⟩ m sCap (digCells v t mem n).toArray 52 (byteCells l) Tryd.underlying22 hsz hR.2 hn hsrc (by simp [digCells, byteCells, hR.1, hl]; omega) (one_bytes _)
    rw [e] at hrun
    refine ⟨_, hrun, ⟨splice_len mem l 0 hR.1 (by omega), ?_⟩, only_setRow w B _⟩
    rw [← dig_splice _ _ _ _ _ _ hR.1 (by omega)]
    unfold Vec
    have := setRow_heap w B _ (splice (digCells v t mem n) (5 + 0) (byteCells l)).toArray 52 _ hR.2
    unfold splice at this ⊢
    rw [e] at this ⊢
    exact this
theorem slice_by (b off n c d : Nat) (h1 : d ≤ n) (h2 : n ≤ c) : ∃ off2, (∀ W : World, (Instr.slice 22 (.slice (some ⟨b, off, none⟩) n c) (some (.int .i64 (d : Int))) none none).run Tryd.prog W = .ok (.slice (some ⟨b, off2, none⟩) (n - d) (c - d)) W) ∧ (0 < n - d → off2 = off + d) := by
  have key : ∀ W : World, (Instr.slice 22 (.slice (some ⟨b, off, none⟩) n c) (some (.int .i64 (d : Int))) none none).run Tryd.prog W = .ok (sliced (some ⟨b, off, none⟩) d n c 1) W := by
    intro W
    rw [run_slice_l W 22 (some ⟨b, off, none⟩) n c (by rw [Tryd.underlying22]; kernel_rfl) .i64 _ (by omega) (by omega)]
    have e1 : Tryd.prog.elem 22 = 5 := by kernel_rfl
    rw [e1, Tryd.sizeOf5]
    rfl
  by_cases h : c = d
  · refine ⟨off, fun W => (key W).trans ?_, fun h3 => by omega⟩
    simp only [sliced, if_pos h]
  · refine ⟨off + d, fun W => (key W).trans ?_, fun _ => rfl⟩
    simp only [sliced, if_neg h, Option.map_some, Addr.add, Nat.mul_one]
    by_cases h0 : d = 0 <;> simp [h0]
set_option maxRecDepth 100000 in
set_option maxHeartbeats 16000000 in
theorem write_any (B : Nat) (S : List UInt8) (a : Option Addr) (n c : Nat) (l : List UInt8) (w : World) (h : Dig w B S) (hS : S.length ≤ 100000) (hn2 : n ≤ 1000) (hsl : SlB w a n c l) (hne : ∀ g off, a = some ⟨g, off, none⟩ → 0 < n → g ≠ B) :
    Calls Tryd.prog 18 #[.pointer (some ⟨B, 0, none⟩), .slice a n c] w fun e w' => e = .returned (.tuple #[.int .i64 n, .nilIface]) ∧ Dig w' B (S ++ l) ∧ Only B w w' := by
  obtain ⟨mem, hmem, hR⟩ := h
  obtain ⟨hln, hnc, hsp⟩ := hsl
  have hk := rest_lt S
  have hrr := run_rest v0 S l
  generalize hRS : restV S = R at *
  obtain ⟨k, hkR⟩ : ∃ k, R.length = k := ⟨_, rfl⟩
  obtain ⟨T, hT⟩ : ∃ T, S.length = T := ⟨_, rfl⟩
  generalize hv : runV v0 S = v at *
  rw [hkR] at hR hmem hk
  rw [hT] at hR hS
  have c4 := hR.2.cell (dig4 v T mem k)
  have c37 := hR.2.cell (dig37 v T mem k hR.1)
  have hf := hR.2.free
  have hwn : IntKind.u64.wrap (n : Int) = (n : Int) := by rw [IntKind.wrap_u64]; omega
  have hws : IntKind.u64.wrap ((T : Int) + (n : Int)) = (T : Int) + (n : Int) := by rw [IntKind.wrap_u64]; omega
  have hR4 : Raw (w.setCell ⟨B, 4, none⟩ (.int .u64 ((T : Int) + (n : Int)))) B v (T + n) mem k := by
    have := hR.s4 (T + n)
    rwa [show ((T + n : Nat) : Int) = (T : Int) + (n : Int) by omega] at this
  have ho4 := Only.set w B 4 (.int .u64 ((T : Int) + (n : Int)))
  have hsp4 : n = 0 ∨ ∃ b off, a = some ⟨b, off, none⟩ ∧ b < (w.setCell ⟨B, 4, none⟩ (.int .u64 ((T : Int) + (n : Int)))).heap.size ∧ Bytes (w.setCell ⟨B, 4, none⟩ (.int .u64 ((T : Int) + (n : Int)))) b off l := (Nat.eq_zero_or_pos n).imp id fun hpos => (hsp.resolve_left (by omega)).imp fun b h2 => h2.imp fun off ⟨ha, hlt, hby⟩ => ⟨ha, by simpa using hlt, fun j hj => (World.cell?_of_block (w := w) (Below.heap_setCell w _ _ b (hne b off ha hpos))).trans (hby j hj)⟩
  have hWs : (w.setCell ⟨B, 4, none⟩ (.int .u64 ((T : Int) + (n : Int)))).heap.size = w.heap.size := by simp
  have HWS := Lib.hid hWs
  have HR4 := Lib.hid hR4
  have HO4 := Lib.hid ho4
  have HSP := Lib.hid hsp4
  have HRR := Lib.hid hrr
  have HMEM := Lib.hid hmem
  have HKR := Lib.hid hkR
  have HTS := Lib.hid hT
  have HLN := Lib.hid hln
  have HNE := Lib.hid hne
  clear hWs hR hR4 ho4 hsp4 hsp hrr hmem hkR hT hln hne
  go_enter Tryd.func18, Tryd.ntmps18
  go_upto_if 24 with fail
  generalize w.setCell ⟨B, 4, none⟩ (.int .u64 ((T : Int) + (n : Int))) = W at *
  clear c4 c37 hf hwn hws
  by_cases hA : k + n < 32
  · have t1 : decide ((k : Int) + (n : Int) < 32) = true := by simp; omega
    have c37 := HR4.out.2.cell (dig37 v (T + n) mem k HR4.out.1)
    have hf := HR4.out.2.free
    have hmin : Nat.min n (32 - k) = n := Nat.min_eq_left (by omega)
    have htk : l.take (32 - k) = l := List.take_of_length_le (by rw [HLN.out]; omega)
    rw [t1]
    have hsm := slice_mem B k hk
    go_upto_region 4 with fail
    go_region_law (first | (refine step_copy_dig rfl (.tmp 32) (.tmp 33) rfl B k v (T + n) mem k HR4.out (by omega) _ _ _ n c rfl rfl l HLN.out (fun _ => rfl) (fun h0 => (HSP.out.resolve_left (by omega)).imp fun b x => x.imp fun off y => ⟨y.1, y.2.2⟩) ?_; intro w1 hR1 ho1))
    all_goals
      rw [htk] at hR1
      have c37 := hR1.2.cell (dig37 v (T + n) (splice mem k l) k hR1.1)
      have hf := hR1.2.free
      have HR1 := Lib.hid hR1
      have HO1 := Lib.hid ho1
      clear hR1 ho1 htk hmin hsm
      go_wp2_with fail
      go_ret2
      have hlr : (R ++ l).length = k + n := by rw [List.length_append, HKR.out, HLN.out]
      have e1 : runV v0 (S ++ l) = v := by rw [HRR.out.1, runV_end (by rw [hlr]; omega)]
      have e2 : restV (S ++ l) = R ++ l := by rw [HRR.out.2, restV_end (by rw [hlr]; omega)]
      have e3 : (S ++ l).length = T + n := by rw [List.length_append, HTS.out, HLN.out]
      have hlm : (mem.take k).length = k := by rw [HMEM.out, HKR.out]
      refine ⟨rfl, ⟨splice mem k l, ?_, ?_⟩, (HO4.out.trans (Only.of_below (below_drewN _ 1))).trans (HO1.out.trans (Only.set _ B 37 _))⟩
      · rw [e2, hlr, splice, ← List.append_assoc, List.take_append_of_le_length (by rw [List.length_append, hlm, HLN.out]; omega), List.take_of_length_le (by rw [List.length_append, hlm, HLN.out]; omega), HMEM.out]
      · rw [e1, e2, e3, hlr]
        have := HR1.out.s37 (k + n)
        rwa [show ((k + n : Nat) : Int) = (k : Int) + (n : Int) by omega] at this
  · have t1 : decide ((k : Int) + (n : Int) < 32) = false := by simp; omega
    obtain ⟨b, off, rfl, hlt, hby⟩ := HSP.out.resolve_left (by omega)
    have hbB := HNE.out b off rfl (by omega)
    rw [t1]
    clear HSP HNE t1
    have c37 := HR4.out.2.cell (dig37 v (T + n) mem k HR4.out.1)
    have hf := HR4.out.2.free
    go_upto_if 47 with fail
    go_cut [1] (fun c1 wx => ∃ (off2 m cc k2 : Nat) (l2 : List UInt8) (v2 : V4) (mem2 : List UInt8), c1 = .slice (some ⟨b, off2, none⟩) m cc ∧ m ≤ cc ∧ m ≤ n ∧ Hid (l2.length = m) ∧ Hid (Bytes wx b off2 l2) ∧ Hid (Raw wx B v2 (T + n) mem2 k2) ∧ Hid (runV v2 l2 = runV v0 (S ++ l)) ∧ Hid (restV l2 = restV (S ++ l)) ∧ Hid (Only B w wx) ∧ b < wx.heap.size)
    case first =>
      by_cases hk0 : k = 0
      · subst hk0
        obtain rfl := List.eq_nil_of_length_eq_zero HKR.out
        go_wp2_with fail
        go_meet
        exact ⟨off, n, c, 0, l, v, mem, rfl, hnc, Nat.le_refl _, HLN, hby, HR4, HRR.out.1.symm, HRR.out.2.symm, HO4, hlt⟩
      · have tk : decide (0 < k) = true := by simp; omega
        have hsm := slice_mem B k hk
        obtain ⟨M, hM⟩ : ∃ M, M = splice mem k (l.take (32 - k)) := ⟨_, rfl⟩
        have hlt32 : (l.take (32 - k)).length = 32 - k := by rw [List.length_take, HLN.out]; omega
        have hMR : M = R ++ l.take (32 - k) := by
          rw [hM, splice, hlt32, HMEM.out, List.drop_eq_nil_of_le (by rw [HR4.out.1]; omega), List.append_nil]
        have hmin : Nat.min n (32 - k) = 32 - k := Nat.min_eq_right (by omega)
        obtain ⟨off2, hsl, hoff2⟩ := slice_tail b off n c k hk (by omega) hnc
        have HM := Lib.hid hM
        have HMR := Lib.hid hMR
        have HBY := Lib.hid hby
        rw [tk]
        clear hM hMR hlt32 hby
        go_upto_region 7 with fail
        go_region_law (first | (refine step_copy_dig rfl (.tmp 55) (.tmp 56) rfl B k v (T + n) mem k HR4.out (by omega) _ _ _ n c rfl rfl l HLN.out (fun _ => rfl) (fun h0 => ⟨b, off, rfl, HBY.out⟩) ?_; intro w1 hR1 ho1))
        all_goals
          have HRa0 : Hid (Raw w1 B v (T + n) M k) := by unfold Hid; rw [HM.out]; exact hR1
          have HOa0 : Hid (Only B w w1) := (HO4.out.trans (Only.of_below (below_drewN _ 1))).trans ho1
          have CM : Hid (∀ (W : World) (vv : V4) (tt nn : Nat), Raw W B vv tt M nn → ∀ (o m cc : Nat), 8 ≤ m → o + 8 ≤ 32 → Calls Tryd.prog 22 #[.slice (some ⟨B, 5 + o, none⟩) m cc] W fun e w' => e = .returned (.int .u64 ((le8 (M.drop o)).toNat : Int)) ∧ Below W.heap.size W w') := fun W vv tt nn h o m cc hm ho =>
            u64_any B (5 + o) m cc (M.drop o) W hm (by rw [List.length_drop, h.1]; omega) (fun j hj => by
              have hj2 : o + j < M.length := by rw [List.length_drop] at hj; omega
              have := h.2.cell (digM vv tt M nn (o + j) hj2)
              rw [Nat.add_assoc, this, List.getElem_drop])
          clear hR1 ho1 hsm c37 hf
          generalize w1 = wa0 at *
          have c0 : wa0.cell? ⟨B, 0, none⟩ = some (.int .u64 (v.a.toNat : Int)) := HRa0.out.2.cell (dig0 _ _ _ _)
          have hs0 : ∀ W : World, (Instr.sliceAt 50 (.pointer (some ⟨B, 5, none⟩)) (some (.int .i64 0)) (some (.int .i64 8)) none).run Tryd.prog W = .ok (.slice (some ⟨B, 5, none⟩) 8 32) W := slice_mid B 0 (by omega)
          go_upto_region 8 with fail
          go_region_law (first | (go_simp; go_at_call 22; refine (CM.out _ ⟨v.a, v.b, v.c, v.d⟩ (T + n) k (by exact HRa0.out) 0 _ _ (by omega) (by omega)).mono ?_; rintro e wb ⟨rfl, hb⟩; have hRb : Hid (Raw wb B ⟨v.a, v.b, v.c, v.d⟩ (T + n) M k) := ⟨HRa0.out.1, (hb.block B HRa0.out.lt).trans HRa0.out.2⟩; have cb0 : wb.cell? ⟨B, 0, none⟩ = some (.int .u64 (v.a.toNat : Int)) := hRb.out.2.cell (dig0 _ _ _ _); have hfb := hRb.out.2.free; have HOb := Lib.hid ((HOa0.out.trans (Only.of_below (below_drewN _ 1))).trans (Only.of_below hb)); clear hb) | (go_simp; go_at_call 21; refine (round_any _ _ _).mono ?_; rintro e w' ⟨rfl, rfl⟩))
        all_goals
          have HRa1 : Hid (Raw (wb.setCell ⟨B, 0, none⟩ (.int .u64 ((rnd v.a (le8 M)).toNat : Int))) B ⟨rnd v.a (le8 M), v.b, v.c, v.d⟩ (T + n) M k) := hRb.out.s0 _
          have HOa1 := Lib.hid (HOb.out.trans (Only.set wb B 0 (.int .u64 ((rnd v.a (le8 M)).toNat : Int))))
          generalize wb.setCell ⟨B, 0, none⟩ (.int .u64 ((rnd v.a (le8 M)).toNat : Int)) = wa1 at *
          clear hRb cb0 hfb HOb c0 hs0 HRa0 HOa0
        all_goals
          have c1 : wa1.cell? ⟨B, 1, none⟩ = some (.int .u64 (v.b.toNat : Int)) := HRa1.out.2.cell (dig1 _ _ _ _)
          have hs1 : ∀ W : World, (Instr.sliceAt 50 (.pointer (some ⟨B, 5, none⟩)) (some (.int .i64 8)) (some (.int .i64 16)) none).run Tryd.prog W = .ok (.slice (some ⟨B, 13, none⟩) 8 24) W := slice_mid B 1 (by omega)
          go_upto_region 9 with fail
          go_region_law (first | (go_simp; go_at_call 22; refine (CM.out _ ⟨rnd v.a (le8 M), v.b, v.c, v.d⟩ (T + n) k (by exact HRa1.out) 8 _ _ (by omega) (by omega)).mono ?_; rintro e wb ⟨rfl, hb⟩; have hRb : Hid (Raw wb B ⟨rnd v.a (le8 M), v.b, v.c, v.d⟩ (T + n) M k) := ⟨HRa1.out.1, (hb.block B HRa1.out.lt).trans HRa1.out.2⟩; have cb1 : wb.cell? ⟨B, 1, none⟩ = some (.int .u64 (v.b.toNat : Int)) := hRb.out.2.cell (dig1 _ _ _ _); have hfb := hRb.out.2.free; have HOb := Lib.hid ((HOa1.out.trans (Only.of_below (below_drewN _ 1))).trans (Only.of_below hb)); clear hb) | (go_simp; go_at_call 21; refine (round_any _ _ _).mono ?_; rintro e w' ⟨rfl, rfl⟩))
        all_goals
          have HRa2 : Hid (Raw (wb.setCell ⟨B, 1, none⟩ (.int .u64 ((rnd v.b (le8 (M.drop 8))).toNat : Int))) B ⟨rnd v.a (le8 M), rnd v.b (le8 (M.drop 8)), v.c, v.d⟩ (T + n) M k) := hRb.out.s1 _
          have HOa2 := Lib.hid (HOb.out.trans (Only.set wb B 1 (.int .u64 ((rnd v.b (le8 (M.drop 8))).toNat : Int))))
          generalize wb.setCell ⟨B, 1, none⟩ (.int .u64 ((rnd v.b (le8 (M.drop 8))).toNat : Int)) = wa2 at *
          clear hRb cb1 hfb HOb c1 hs1 HRa1 HOa1
        all_goals
          have c2 : wa2.cell? ⟨B, 2, none⟩ = some (.int .u64 (v.c.toNat : Int)) := HRa2.out.2.cell (dig2 _ _ _ _)
          have hs2 : ∀ W : World, (Instr.sliceAt 50 (.pointer (some ⟨B, 5, none⟩)) (some (.int .i64 16)) (some (.int .i64 24)) none).run Tryd.prog W = .ok (.slice (some ⟨B, 21, none⟩) 8 16) W := slice_mid B 2 (by omega)
          go_upto_region 10 with fail
          go_region_law (first | (go_simp; go_at_call 22; refine (CM.out _ ⟨rnd v.a (le8 M), rnd v.b (le8 (M.drop 8)), v.c, v.d⟩ (T + n) k (by exact HRa2.out) 16 _ _ (by omega) (by omega)).mono ?_; rintro e wb ⟨rfl, hb⟩; have hRb : Hid (Raw wb B ⟨rnd v.a (le8 M), rnd v.b (le8 (M.drop 8)), v.c, v.d⟩ (T + n) M k) := ⟨HRa2.out.1, (hb.block B HRa2.out.lt).trans HRa2.out.2⟩; have cb2 : wb.cell? ⟨B, 2, none⟩ = some (.int .u64 (v.c.toNat : Int)) := hRb.out.2.cell (dig2 _ _ _ _); have hfb := hRb.out.2.free; have HOb := Lib.hid ((HOa2.out.trans (Only.of_below (below_drewN _ 1))).trans (Only.of_below hb)); clear hb) | (go_simp; go_at_call 21; refine (round_any _ _ _).mono ?_; rintro e w' ⟨rfl, rfl⟩))
        all_goals
          have HRa3 : Hid (Raw (wb.setCell ⟨B, 2, none⟩ (.int .u64 ((rnd v.c (le8 (M.drop 16))).toNat : Int))) B ⟨rnd v.a (le8 M), rnd v.b (le8 (M.drop 8)), rnd v.c (le8 (M.drop 16)), v.d⟩ (T + n) M k) := hRb.out.s2 _
          have HOa3 := Lib.hid (HOb.out.trans (Only.set wb B 2 (.int .u64 ((rnd v.c (le8 (M.drop 16))).toNat : Int))))
          generalize wb.setCell ⟨B, 2, none⟩ (.int .u64 ((rnd v.c (le8 (M.drop 16))).toNat : Int)) = wa3 at *
          clear hRb cb2 hfb HOb c2 hs2 HRa2 HOa2
        all_goals
          have c3 : wa3.cell? ⟨B, 3, none⟩ = some (.int .u64 (v.d.toNat : Int)) := HRa3.out.2.cell (dig3 _ _ _ _)
          have hs3 : ∀ W : World, (Instr.sliceAt 50 (.pointer (some ⟨B, 5, none⟩)) (some (.int .i64 24)) (some (.int .i64 32)) none).run Tryd.prog W = .ok (.slice (some ⟨B, 29, none⟩) 8 8) W := slice_mid B 3 (by omega)
          go_upto_region 11 with fail
          go_region_law (first | (go_simp; go_at_call 22; refine (CM.out _ ⟨rnd v.a (le8 M), rnd v.b (le8 (M.drop 8)), rnd v.c (le8 (M.drop 16)), v.d⟩ (T + n) k (by exact HRa3.out) 24 _ _ (by omega) (by omega)).mono ?_; rintro e wb ⟨rfl, hb⟩; have hRb : Hid (Raw wb B ⟨rnd v.a (le8 M), rnd v.b (le8 (M.drop 8)), rnd v.c (le8 (M.drop 16)), v.d⟩ (T + n) M k) := ⟨HRa3.out.1, (hb.block B HRa3.out.lt).trans HRa3.out.2⟩; have cb3 : wb.cell? ⟨B, 3, none⟩ = some (.int .u64 (v.d.toNat : Int)) := hRb.out.2.cell (dig3 _ _ _ _); have hfb := hRb.out.2.free; have HOb := Lib.hid ((HOa3.out.trans (Only.of_below (below_drewN _ 1))).trans (Only.of_below hb)); clear hb) | (go_simp; go_at_call 21; refine (round_any _ _ _).mono ?_; rintro e w' ⟨rfl, rfl⟩))
        all_goals
          have HRa4 : Hid (Raw (wb.setCell ⟨B, 3, none⟩ (.int .u64 ((rnd v.d (le8 (M.drop 24))).toNat : Int))) B ⟨rnd v.a (le8 M), rnd v.b (le8 (M.drop 8)), rnd v.c (le8 (M.drop 16)), rnd v.d (le8 (M.drop 24))⟩ (T + n) M k) := hRb.out.s3 _
          have HOa4 := Lib.hid (HOb.out.trans (Only.set wb B 3 (.int .u64 ((rnd v.d (le8 (M.drop 24))).toNat : Int))))
          generalize wb.setCell ⟨B, 3, none⟩ (.int .u64 ((rnd v.d (le8 (M.drop 24))).toNat : Int)) = wa4 at *
          clear hRb cb3 hfb HOb c3 hs3 HRa3 HOa3
        all_goals
          have c37 := HRa4.out.2.cell (dig37 _ _ _ _ HRa4.out.1)
          have hf := HRa4.out.2.free
          go_wp2_with fail
          go_meet
          have hbw : b < w.heap.size := by rw [← HWS.out]; exact hlt
          have hO : Only B w (wa4.setCell ⟨B, 37, none⟩ (.int .i64 0)) := HOa4.out.trans (Only.set _ B 37 _)
          have hsplit : R ++ l = M ++ l.drop (32 - k) := by rw [HMR.out, List.append_assoc, List.take_append_drop]
          have hrb := run_block v M (l.drop (32 - k)) HRa4.out.1
          refine ⟨off2, n - (32 - k), c - (32 - k), 0, l.drop (32 - k), stepV v M, M, rfl, by omega, by omega, ?_, ?_, HRa4.out.s37 0, ?_, ?_, Lib.hid hO, Nat.lt_of_lt_of_le hbw hO.size⟩
          · unfold Hid; rw [List.length_drop, HLN.out]
          · intro j hj
            have hj2 : 0 < n - (32 - k) := by rw [List.length_drop, HLN.out] at hj; omega
            rw [hoff2 hj2]
            have := HBY.out.drop (32 - k) (off + (32 - k)) rfl j hj
            rw [← this]
            exact World.cell?_of_block (w := W) ((hO.block b hbw hbB).trans (HO4.out.block b hbw hbB).symm)
          · unfold Hid; rw [HRR.out.1, hsplit, hrb.1]
          · unfold Hid; rw [HRR.out.2, hsplit, hrb.2]
    case rest =>
      obtain ⟨o2, m, cc, k2, l2, v2, mem2, rfl, hmc, hmn, HL2, HB2, HR2, HV2, HT2, HO2, hb2⟩ := hcut
      go_upto_if 122 with fail
      go_cut [1] (fun c1 wx => ∃ (o3 m3 cc3 k3 : Nat) (l3 : List UInt8) (v3 : V4) (mem3 : List UInt8), c1 = .slice (some ⟨b, o3, none⟩) m3 cc3 ∧ m3 ≤ 31 ∧ Hid (l3.length = m3) ∧ Hid (Bytes wx b o3 l3) ∧ Hid (Raw wx B v3 (T + n) mem3 k3) ∧ Hid (v3 = runV v0 (S ++ l)) ∧ Hid (l3 = restV (S ++ l)) ∧ Hid (Only B w wx))
      case first =>
        by_cases hm32 : 32 ≤ m
        · have t7 : decide ((32 : Int) ≤ (m : Int)) = true := by simp; omega
          have hrl := rest_le l2
          have hr31 := rest_lt l2
          rw [HL2.out] at hrl
          have CBk := Lib.hid (blocks_any B v2 (T + n) mem2 k2 b o2 m cc l2 _ HR2.out hbB HL2.out (by omega) hmc hb2 HB2.out)
          have hrd := rest_drop l2
          rw [HL2.out] at hrd
          obtain ⟨d, hd⟩ : ∃ d, m - (restV l2).length = d := ⟨_, rfl⟩
          rw [hd] at CBk hrd
          obtain ⟨o3, hsl, ho3⟩ := slice_by b o2 m cc d (by omega) hmc
          rw [t7]
          go_wp2_with (go_at_call 33; refine CBk.out.mono ?_; rintro e w3 ⟨rfl, hR3, hO3⟩)
          go_meet
          refine ⟨o3, m - d, cc - d, k2, restV l2, runV v2 l2, mem2, rfl, by omega, Lib.hid (by omega), ?_, hR3, HV2.out, HT2.out, Lib.hid (HO2.out.trans hO3)⟩
          intro j hj
          have hj2 : 0 < m - d := by omega
          rw [ho3 hj2]
          have hj3 : j < (l2.drop d).length := by rw [← hrd]; exact hj
          have := HB2.out.drop d (o2 + d) rfl j hj3
          have e : (restV l2)[j] = (l2.drop d)[j] := by congr 1
          rw [e, ← this]
          exact World.cell?_of_block (hO3.block b hb2 hbB)
        · have t7 : decide ((32 : Int) ≤ (m : Int)) = false := by simp; omega
          rw [t7]
          go_wp2_with fail
          go_meet
          have hv := HV2.out
          have ht := HT2.out
          rw [runV_end (by rw [HL2.out]; exact hm32)] at hv
          rw [restV_end (by rw [HL2.out]; exact hm32)] at ht
          exact ⟨o2, m, cc, k2, l2, v2, mem2, rfl, by omega, HL2, HB2, HR2, hv, ht, HO2⟩
      case rest =>
        obtain ⟨o3, m3, cc3, k3, l3, v3, mem3, rfl, hm3, HL3, HB3, HR3, HV3, HT3, HO3⟩ := hcut
        obtain ⟨w4, hcp, hR4, hO4⟩ := run_copy_dig HR3.out m3 cc3 b o3 l3 HL3.out (by omega) HB3.out
        have c37 := hR4.2.cell (dig37 v3 (T + n) (splice mem3 0 l3) k3 hR4.1)
        have hf4 := hR4.2.free
        have HR5 := Lib.hid hR4
        have HO5 := Lib.hid hO4
        clear hR4 hO4
        go_wp2
        go_ret2
        have e1 : (S ++ l).length = T + n := by rw [List.length_append, HTS.out, HLN.out]
        refine ⟨rfl, ⟨splice mem3 0 l3, ?_, ?_⟩, (HO3.out.trans HO5.out).trans (Only.set _ B 37 _)⟩
        · rw [← HT3.out, splice, List.take_zero, List.nil_append, List.take_append_of_le_length (Nat.le_refl _), List.take_length]
        · rw [← HT3.out, ← HV3.out, e1, HL3.out]
          exact HR5.out.s37 m3
end Go.Proofs.YtonndmljendcoaaDoor
