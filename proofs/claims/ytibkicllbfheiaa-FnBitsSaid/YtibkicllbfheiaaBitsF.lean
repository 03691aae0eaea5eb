/- What the function that impl.Bits hands to calm does: the two sets are filled, read and compared. -/
import Derived.Test.YtibkicllbfheiaaBitsS
import Derived.Deep.RegionHeld3
import Derived.Deep.RegionWith
import Derived.Deep.RegionLaw
import Derived.Deep.DeepCutAuto
import Derived.Deep.DrawnRows
namespace Go.Proofs.Ytibkicllbfheiaa
open Go.RowKit
set_option linter.unusedVariables false
set_option linter.unusedSimpArgs false
attribute [local go_sem ↓] Go.wp_at_zero Go.wp_at_succ

theorem run_indexAt (a : Option Addr) (b off n c k : Nat) (w : World) (ha : a = some ⟨b, off, none⟩) (hk : k < n) : (Instr.indexAt 29 (.slice a n c) (.int .i64 (k : Int))).run Try.prog w = .ok (.pointer (some ⟨b, off + k, none⟩)) w := by
  subst ha
  have h1 : (0 : Int) ≤ (k : Int) := by omega
  have h2 : (k : Int) < (n : Int) := by omega
  by_cases h3 : k = 0
  · subst h3; simp [Instr.indexAt, go_sem, hk, Addr.add]
  · simp [Instr.indexAt, go_sem, hk, Addr.add, h3]
set_option maxRecDepth 100000 in
set_option maxHeartbeats 16000000 in
theorem bitsf_any (count m n1 c1 n2 c2 : Nat) (a1 a2 : Option Addr) (zs ys : List Int) (B : Nat) (w : World) (hm : m = (count + 7) / 8) (hn : count ≤ 1000) (hn0 : 0 < count) (hn1 : n1 ≤ 1000) (hn2 : n2 ≤ 1000)
    (h0 : w.heap[B]? = some (.cells #[.int .i64 (count : Int)] 3 (0, 0))) (h1 : w.heap[B + 1]? = some (.cells #[.slice a1 n1 c1] 29 (0, 0))) (h2 : w.heap[B + 2]? = some (.cells #[.slice a2 n2 c2] 29 (0, 0)))
    (h3 : w.heap[B + 3]? = some (.cells #[.slice none 0 0] 30 (0, 0))) (h4 : w.heap[B + 4]? = some (.cells #[.bool false] 4 (0, 0))) (h5 : w.heap[B + 5]? = some (.cells #[.bool false] 4 (0, 0)))
    (hz : Ints w B a1 n1 zs) (hy : Ints w B a2 n2 ys) (hzr : ∀ x ∈ zs, 0 ≤ x ∧ x < count) (hyr : ∀ x ∈ ys, 0 ≤ x ∧ x < count) :
    Calls Try.prog 12 #[.pointer (some ⟨B, 0, none⟩), .pointer (some ⟨B + 1, 0, none⟩), .pointer (some ⟨B + 2, 0, none⟩), .pointer (some ⟨B + 3, 0, none⟩), .pointer (some ⟨B + 4, 0, none⟩)] w fun e w' => e = .returned (.tuple #[]) ∧ w'.heap[B + 5]? = some (.cells #[.bool false] 4 (0, 0)) ∧
      ∃ g cap, w'.heap[B + 3]? = some (.cells #[.slice (some ⟨g, 0, none⟩) count cap] 30 (0, 0)) ∧ w'.heap[B + 4]? = some (.cells #[.bool (sameB count zs ys)] 4 (0, 0)) ∧ w'.ownsRow w.heap.size 4 1 (.slice (some ⟨g, 0, none⟩) count cap) count (boolCells (bm count zs)) ∧ Below B w w' := by
  obtain ⟨qq, hqq⟩ : ∃ q, q = sameB count zs ys := ⟨_, rfl⟩
  rw [← hqq]
  have HQ := Lib.hid hqq
  clear hqq
  have c0 := cell_of_one h0
  have hB := lt_of_block h5
  have CN := fun w => newbits_any count m hn hm w
  have CN := Lib.hid CN
  have hwr : IntKind.u64.wrap (count : Int) = (count : Int) := by rw [IntKind.wrap_u64]; omega
  have H0 := Lib.hid h0
  have H1 := Lib.hid h1
  have H2 := Lib.hid h2
  have H3 := Lib.hid h3
  have H4 := Lib.hid h4
  have H5 := Lib.hid h5
  have HZ := Lib.hid hz
  have HY := Lib.hid hy
  have HZR := Lib.hid hzr
  have HYR := Lib.hid hyr
  have HM := Lib.hid hm
  have hmb : m ≤ 1000 := by omega
  clear hm h0 h1 h2 h3 h4 h5 hz hy hzr hyr
  go_enter Try.func12, Try.ntmps12
  go_upto_region 0 with fail
  go_cut [5, 6] (fun v5 v6 wx => Made w m v5 v6 wx)
  case first =>
    go_region_held3 (fun w' => w'.cell? ⟨B, 0, none⟩ = some (.int .i64 (count : Int))) ((refine keep_drew ?_; repeat (first | exact c0 | refine keep_alloc ?_ _))) (first | (go_at_call 13; refine (CN.out _).mono ?_; rintro e w' ⟨rfl, rfl⟩))
    all_goals
      go_wp2_with fail
      go_meet
      apply Made.mk
      all_goals try (unfold Vec; rw [← made_bytes])
      all_goals try (refine at_drew ?_; (repeat (first | (refine heap_at_new _ _ _ ?_; simp; done) | refine at_old ?_ _)); done)
      all_goals first | omega | (refine grown_drew ?_; (repeat (first | exact grown_refl _ _ | refine grown_one ?_ _)); done)
  case rest =>
    obtain ⟨p5, p6, g5, g6, rfl, rfl, q5, q6, s5, s6, hne, l5, l6, k5, k6, hg⟩ := hcut
    have old : ∀ {k : Nat} {o : Obj}, w.heap[k]? = some o → wc.heap[k]? = some o := fun {k o} hk => by rw [hg.block k (lt_of_block hk) (by simp)]; exact hk
    have hS : St B count m p5 p6 g5 g6 (.slice a1 n1 c1) (.slice a2 n2 c2) w [] [] (.slice none 0 0) false wc := ⟨(Below.refl B w).grown hg (by omega) (fun k hk => by cases hk), old H0.out, old H1.out, old H2.out, old H3.out, old H4.out, old H5.out, q5, q6, s5, s6, hne, by omega, by omega, by omega, by omega⟩
    have hsz := hg.size
    have HS := Lib.hid hS
    have e1 := cell_of_one hS.b1
    clear q5 q6 s5 s6 hg hS old hwr CN
    go_wp2_with fail
    go_loopw [20] (fun i wr => ∃ k : Nat, k ≤ n1 ∧ i = .int .i64 (k : Int) ∧ w.heap.size ≤ wr.heap.size ∧ Hid (St B count m p5 p6 g5 g6 (.slice a1 n1 c1) (.slice a2 n2 c2) w (zs.take k) [] (.slice none 0 0) false wr)) (fun i _ => n1 - (intOf i).toNat)
    case atStart => exact ⟨0, Nat.zero_le _, rfl, hsz, HS⟩
    case round =>
      obtain ⟨k, hk, rfl, hszr, HR⟩ := hrel
      by_cases hlt : k < n1
      · have hkl : k < zs.length := by rw [HZ.out.1]; exact hlt
        obtain ⟨b, off, ha, hbB, hcell⟩ := HZ.out.2.resolve_left (by omega)
        have hix := fun w => run_indexAt a1 b off n1 c1 k w ha hlt
        have hzk := HZR.out zs[k] (List.getElem_mem _)
        obtain ⟨z, hz⟩ : ∃ z : Nat, zs[k] = (z : Int) := ⟨zs[k].toNat, by omega⟩
        have ck := (HR.out.bel.cell (p := ⟨b, off + k, none⟩) hbB).trans (hcell k hkl)
        rw [hz] at ck hzk
        have htk : zs.take (k + 1) = zs.take k ++ [(z : Int)] := by rw [List.take_succ_eq_append_getElem hkl, hz]
        have e0 := cell_of_one HR.out.b0
        have e5 := cell_of_one HR.out.q5
        have t1 : decide ((z : Int) < 0) = false := by simp
        have hzc : z < count := by omega
        have t2 : decide (count ≤ z) = false := by simp; omega
        have hw2 : IntKind.u64.wrap (z : Int) = (z : Int) := by rw [IntKind.wrap_u64]; omega
        have hzm : z / 8 < m := by have := HM.out; omega
        have C := Lib.hid (setbit_any g5 m z (zs.take k) wr HR.out.s5 hmb hzm)
        have HT := Lib.hid htk
        clear ha hcell hbB hz htk hkl hzk
        go_wp2_with (first | (go_at_call 14; refine C.out.mono ?_; rintro e w1 ⟨rfl, hV, hg1⟩) | fail)
        have hs1 := hg1.size
        have HR2 := Lib.hid (HR.out.setA hg1 hV)
        rw [← HT.out] at HR2
        clear hV hg1
        go_roundw
        case rel => exact ⟨k + 1, by omega, by go_num, by omega, HR2⟩
        case measure => simp [intOf]; omega
      · obtain rfl : k = n1 := by omega
        have HR1 := HR.out
        rw [List.take_of_length_le (by rw [HZ.out.1]; exact Nat.le_refl _)] at HR1
        have HR1 := Lib.hid HR1
        have e2 := cell_of_one HR1.out.b2
        clear HR
        go_wp2_with fail
        go_loopw [39] (fun i wr => ∃ k : Nat, k ≤ n2 ∧ i = .int .i64 (k : Int) ∧ w.heap.size ≤ wr.heap.size ∧ Hid (St B count m p5 p6 g5 g6 (.slice a1 _ c1) (.slice a2 n2 c2) w zs (ys.take k) (.slice none 0 0) false wr)) (fun i _ => n2 - (intOf i).toNat)
        case atStart => exact ⟨0, Nat.zero_le _, rfl, hszr, HR1⟩
        case round =>
          obtain ⟨k, hk, rfl, hszr, HR⟩ := hrel
          by_cases hlt : k < n2
          · have hkl : k < ys.length := by rw [HY.out.1]; exact hlt
            obtain ⟨b, off, ha, hbB, hcell⟩ := HY.out.2.resolve_left (by omega)
            have hix := fun w => run_indexAt a2 b off n2 c2 k w ha hlt
            have hzk := HYR.out ys[k] (List.getElem_mem _)
            obtain ⟨z, hz⟩ : ∃ z : Nat, ys[k] = (z : Int) := ⟨ys[k].toNat, by omega⟩
            have ck := (HR.out.bel.cell (p := ⟨b, off + k, none⟩) hbB).trans (hcell k hkl)
            rw [hz] at ck hzk
            have htk : ys.take (k + 1) = ys.take k ++ [(z : Int)] := by rw [List.take_succ_eq_append_getElem hkl, hz]
            have e0 := cell_of_one HR.out.b0
            have e5 := cell_of_one HR.out.q6
            have t1 : decide ((z : Int) < 0) = false := by simp
            have hzc : z < count := by omega
            have t2 : decide (count ≤ z) = false := by simp; omega
            have hw2 : IntKind.u64.wrap (z : Int) = (z : Int) := by rw [IntKind.wrap_u64]; omega
            have hzm : z / 8 < m := by have := HM.out; omega
            have C := Lib.hid (setbit_any g6 m z (ys.take k) wr HR.out.s6 hmb hzm)
            have HT := Lib.hid htk
            clear ha hcell hbB hz htk hkl hzk
            go_wp2_with (first | (go_at_call 14; refine C.out.mono ?_; rintro e w1 ⟨rfl, hV, hg1⟩) | fail)
            have hs1 := hg1.size
            have HR2 := Lib.hid (HR.out.setB hg1 hV)
            rw [← HT.out] at HR2
            clear hV hg1
            go_roundw
            case rel => exact ⟨k + 1, by omega, by go_num, by omega, HR2⟩
            case measure => simp [intOf]; omega
          · obtain rfl : k = n2 := by omega
            have HR2 := HR.out
            rw [List.take_of_length_le (by rw [HY.out.1]; exact Nat.le_refl _)] at HR2
            have HR2 := Lib.hid HR2
            clear HR
            obtain ⟨i0, hi, hz0, hz1, hz2⟩ := info_parts infoBool
            have hp5 := lt_of_block HR2.out.q5
            have hp6 := lt_of_block HR2.out.q6
            have hp7 := HR2.out.s5.lt
            have hp8 := HR2.out.s6.lt
            have hlB := HR2.out.l5
            obtain ⟨H, hH⟩ : ∃ H, H = wr.heap.size := ⟨_, rfl⟩
            rw [← hH] at hp5 hp6 hp7 hp8 hszr
            have HH : H ≤ wr.heap.size := by omega
            clear hH
            go_wp2_with fail
            go_loopw [11] (fun i wr2 => ∃ (j : Nat) (v : Value), j ≤ count ∧ i = .int .i64 (j : Int) ∧ H ≤ wr2.heap.size ∧ Hid (St B count m p5 p6 g5 g6 (.slice a1 _ c1) (.slice a2 _ c2) w zs ys v false wr2) ∧ Hid (wr2.ownsRow H 4 1 v j (boolCells ((bm count zs).take j)))) (fun i _ => count - (intOf i).toNat)
            case atStart => exact ⟨0, _, Nat.zero_le _, rfl, HH, HR2, Lib.hid (World.ownsRow_nil _ _ _ _)⟩
            case round =>
              obtain ⟨j, v, hj, rfl, hszj, HS3, HO⟩ := hrel
              have e0 := cell_of_one HS3.out.b0
              by_cases hjc : j < count
              · have e3 := cell_of_one HS3.out.b3
                have f3 := free_of_one HS3.out.b3
                have e5 := cell_of_one HS3.out.q5
                have hjm : j / 8 < m := by have := HM.out; omega
                obtain ⟨bb, hbb⟩ : ∃ bb, bb = decide ((j : Int) ∈ zs) := ⟨_, rfl⟩
                have C : ∀ W, Vec W g5 5 (byteCells (mbs m zs)) → Calls Try.prog 15 #[.agg #[.slice (some ⟨g5, 0, none⟩) m m], .int .u64 (j : Int)] W fun e w' => e = .returned (.bool bb) ∧ W.alloc (.cells #[.slice (some ⟨g5, 0, none⟩) m m] 39) = w' := fun W hV => by
                  rw [hbb]; exact hasbit_any g5 m j zs W hV hmb hjm
                have hw2 : IntKind.u64.wrap (j : Int) = (j : Int) := by rw [IntKind.wrap_u64]; omega
                have hst : boolCells ((bm count zs).take j) ++ [.bool bb] = boolCells ((bm count zs).take (j + 1)) := by
                  rw [List.take_add_one, bm_at count zs j hjc, hbb]; simp [boolCells]
                have HST := Lib.hid hst
                have HC := Lib.hid C
                have hb3 : B + 3 < wr.heap.size := by omega
                have hb4 : p5 < wr.heap.size := by omega
                clear C hst hbb
                go_wp2_with fail
                go_region_law
                  (first
                    | (go_simp; go_at_call 15; refine (HC.out _ HS3.out.drew.s5).mono ?_; rintro e w' ⟨rfl, rfl⟩)
                    | (refine step_append_lies _ (by rfl) _ _ _ (by rfl) H 4 i0 (.bool false) 1 1 Try.underlying30 hi hz0 hz1 hz2 rfl (by decide) v j (boolCells ((bm count zs).take j)) (by rfl) (((HO.out.alloc _).alloc _).drew)
                        ⟨wr.heap.size + 1, 0, none⟩ 1 1 [.bool bb] (by rfl) (by rfl) (World.news_of_block (cs := #[.bool bb]) (t := 4) (fr := (0, 0)) (heap_at_new _ _ _ (by simp))) (by simp [Value.oneCell'])
                        (by omega) (by unfold maxLen; omega) (by omega) (by simp; omega) (wr.heap.size + 1 + 1) (by simp) ?_; intro gg cap w1 hown1 hgrow hat hlt; have hs1 := ((HS3.out.alloc _).alloc _).drew.far hgrow (fun k hk => (HO.out.lt k hk).1) hp5 hp6 hp7 hp8; have k3 := cell_of_one hs1.b3; have k4 := free_of_one hs1.b3))
                all_goals (
                  have HS4 := Lib.hid (hs1.setL (.slice (some ⟨gg, 0, none⟩) (j + 1) cap))
                  have HO4 := Lib.hid (own_set (j := B + 3) (c := 0) hown1 (by omega) (.slice (some ⟨gg, 0, none⟩) (j + 1) cap))
                  have hz9 : H ≤ w1.heap.size := by have := hgrow.size; simp at this; omega
                  clear hs1 hown1 hgrow hat hlt k3 k4
                  go_wp2_with fail
                  go_roundw
                  case rel => exact ⟨j + 1, _, by omega, by go_num, by simpa using hz9, HS4, by rw [← HST.out]; exact HO4⟩
                  case measure => simp [intOf]; omega)
              · obtain rfl : j = count := by omega
                have hO := HO.out
                rw [List.take_of_length_le (by rw [bm_len]; exact Nat.le_refl _)] at hO
                obtain ⟨g, cap, hv, hgH, hgl⟩ := hO.form hn0
                have e5 := cell_of_one HS3.out.q5
                have e6 := cell_of_one HS3.out.q6
                have C := equals_any g5 g6 j m zs ys wr HS3.out.s5 HS3.out.s6 HM.out HZR.out HYR.out
                have HC := Lib.hid C
                have HO := Lib.hid hO
                have HV := Lib.hid hv
                rw [← HQ.out] at HC
                clear C hO hv
                go_wp2_with (first | (go_at_call 16; refine HC.out.mono ?_; rintro e w1 ⟨rfl, hg1⟩; have hs1 := HS3.out.other hg1 (fun _ h => by cases h); have k4 := cell_of_one hs1.b4; have f4 := free_of_one hs1.b4) | fail)
                go_end0
                have hs2 := hs1.setQ qq
                refine ⟨rfl, hs2.b5, g, cap, by rw [← HV.out]; exact hs2.b3, hs2.b4, ?_, hs2.bel⟩
                rw [← HV.out]
                exact own_mono (own_set (HO.out.kept hg1 (by rw [HV.out]; simp [Value.ownBlock])) (by omega) _) hszr
end Go.Proofs.Ytibkicllbfheiaa
