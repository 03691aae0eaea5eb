/- FnBits holds for every count and numbers: no condition. -/
import Derived.Test.YtibkicllbfheiaaBitsI
import Derived.Deep.QuietTactic
import Derived.BigQuiet
import Derived.ProofKit
import Derived.OpenShut
import Derived.ShutString
import Derived.ChangeOld
namespace Go.Proofs.Ytibkicllbfheiaa.fnBits
open Go.ChangeShapes Go.WideShapes Go.ChangeAt Go.RowKit
set_option linter.unusedVariables false
set_option linter.unusedSimpArgs false

/-- The law's own two lists. -/
structure Lw (ga gb n : Nat) (w : World) (S T : List Int) (wr : World) : Prop where
  bel : Below w.heap.size w wr
  a : Vec wr ga 4 (boolCells (bm n S))
  b : Vec wr gb 4 (boolCells (bm n T))
  ne : ga ≠ gb
  la : w.heap.size ≤ ga
  lb : w.heap.size ≤ gb
section
variable {ga gb n : Nat} {w wr : World} {S T : List Int}
theorem Lw.setA (h : Lw ga gb n w S T wr) (z : Nat) (hz : z < n) : Lw ga gb n w (S ++ [(z : Int)]) T (wr.setCell ⟨ga, z, none⟩ (.bool true)) := by
  refine ⟨h.bel.setCell h.la _, ?_, (Below.heap_setCell wr _ _ gb (Ne.symm h.ne)).trans h.b, h.ne, h.la, h.lb⟩
  have h1 := h.a.set z (.bool true)
  rw [bools_set n S z hz] at h1
  exact h1
theorem Lw.setB (h : Lw ga gb n w S T wr) (z : Nat) (hz : z < n) : Lw ga gb n w S (T ++ [(z : Int)]) (wr.setCell ⟨gb, z, none⟩ (.bool true)) := by
  refine ⟨h.bel.setCell h.lb _, (Below.heap_setCell wr _ _ ga h.ne).trans h.a, ?_, h.ne, h.la, h.lb⟩
  have h1 := h.b.set z (.bool true)
  rw [bools_set n T z hz] at h1
  exact h1
theorem Lw.grown (h : Lw ga gb n w S T wr) {w' : World} (hb : Below wr.heap.size wr w') : Lw ga gb n w S T w' :=
  ⟨h.bel.trans (hb.mono h.bel.size), (hb.block ga h.a.lt).trans h.a, (hb.block gb h.b.lt).trans h.b, h.ne, h.la, h.lb⟩
end
theorem below_drewN (w : World) (k : Nat) : Below w.heap.size w (w.drewN k) := ⟨rfl, rfl, rfl, Nat.le_refl _, fun _ _ => rfl⟩
theorem ret_true {a b : Bool} (h : a = b) : Ending.returned (.bool a) = .returned (.bool b) := by rw [h]
set_option maxRecDepth 100000 in
set_option maxHeartbeats 4000000 in
theorem out1 (count : Int) (a1 a2 : Option Addr) (n1 c1 n2 c2 : Nat) (w : World) (h : 2147483647 < n1) : Calls Try.prog 5 #[.int .i64 count, .slice a1 n1 c1, .slice a2 n2 c2] w fun e w' => e = .returned (.bool true) ∧ Below w.heap.size w w' := by
  have t1 : decide ((2147483647 : Int) < (n1 : Int)) = true := by simp; omega
  clear h
  go_enter Try.func5, Try.ntmps5
  go_wp2_with fail
  go_ret
  exact ⟨rfl, Below.refl _ _⟩
set_option maxRecDepth 100000 in
set_option maxHeartbeats 4000000 in
theorem out2 (count : Int) (a1 a2 : Option Addr) (n1 c1 n2 c2 : Nat) (w : World) (h1 : ¬ 2147483647 < n1) (h : 2147483647 < n2) : Calls Try.prog 5 #[.int .i64 count, .slice a1 n1 c1, .slice a2 n2 c2] w fun e w' => e = .returned (.bool true) ∧ Below w.heap.size w w' := by
  have t1 : decide ((2147483647 : Int) < (n1 : Int)) = false := by simp; omega
  have t2 : decide ((2147483647 : Int) < (n2 : Int)) = true := by simp; omega
  clear h h1
  go_enter Try.func5, Try.ntmps5
  go_wp2_with fail
  go_ret
  exact ⟨rfl, Below.refl _ _⟩
set_option maxRecDepth 100000 in
set_option maxHeartbeats 4000000 in
theorem out3 (count : Int) (a1 a2 : Option Addr) (n1 c1 n2 c2 : Nat) (w : World) (h1 : ¬ 2147483647 < n1) (h2 : ¬ 2147483647 < n2) (h : count < 1 ∨ 500 < count ∨ 100 < n1 ∨ 100 < n2) : Calls Try.prog 5 #[.int .i64 count, .slice a1 n1 c1, .slice a2 n2 c2] w fun e w' => e = .returned (.bool true) ∧ Below w.heap.size w w' := by
  have t1 : decide ((2147483647 : Int) < (n1 : Int)) = false := by simp; omega
  have t2 : decide ((2147483647 : Int) < (n2 : Int)) = false := by simp; omega
  by_cases c1 : count < 1
  · have t3 : decide (count < 1) = true := by simpa using c1
    clear h h1 h2
    go_enter Try.func5, Try.ntmps5
    go_wp2_with fail
    go_ret
    exact ⟨rfl, Below.refl _ _⟩
  · have t3 : decide (count < 1) = false := by simpa using c1
    by_cases c2 : 500 < count
    · have t4 : decide (500 < count) = true := by simpa using c2
      clear h h1 h2
      go_enter Try.func5, Try.ntmps5
      go_wp2_with fail
      go_ret
      exact ⟨rfl, Below.refl _ _⟩
    · have t4 : decide (500 < count) = false := by simpa using c2
      by_cases c3 : 100 < n1
      · have t5 : decide ((100 : Int) < (n1 : Int)) = true := by simp; omega
        clear h h1 h2 c3
        go_enter Try.func5, Try.ntmps5
        go_wp2_with fail
        go_ret
        exact ⟨rfl, Below.refl _ _⟩
      · have t5 : decide ((100 : Int) < (n1 : Int)) = false := by simp; omega
        have t6 : decide ((100 : Int) < (n2 : Int)) = true := by simp; omega
        clear h h1 h2 c3
        go_enter Try.func5, Try.ntmps5
        go_wp2_with fail
        go_ret
        exact ⟨rfl, Below.refl _ _⟩
theorem row_cell {w : World} {B E g n cap : Nat} {xs : List Value} (h : w.ownsRow B E 1 (.slice (some ⟨g, 0, none⟩) n cap) n xs) {j : Nat} {u : Value} (hj : xs[j]? = some u) : w.cell? ⟨g, j, none⟩ = some u := by
  have := h.cells (g := g) rfl j u hj
  have e : (⟨g, 0, none⟩ : Addr).add j = ⟨g, j, none⟩ := by unfold Addr.add; split <;> simp_all
  rwa [e] at this
set_option maxRecDepth 100000 in
set_option maxHeartbeats 16000000 in
theorem main (count n1 c1 n2 c2 : Nat) (a1 a2 : Option Addr) (zs ys : List Int) (w : World) (hn : count ≤ 500) (hn0 : 0 < count) (hn1 : n1 ≤ 100) (hn2 : n2 ≤ 100) (hz : Ints w w.heap.size a1 n1 zs) (hy : Ints w w.heap.size a2 n2 ys) :
    Calls Try.prog 5 #[.int .i64 (count : Int), .slice a1 n1 c1, .slice a2 n2 c2] w fun e w' => e = .returned (.bool true) ∧ Below w.heap.size w w' := by
  have t1 : decide ((2147483647 : Int) < (n1 : Int)) = false := by simp; omega
  have t2 : decide ((2147483647 : Int) < (n2 : Int)) = false := by simp; omega
  have t3 : decide ((count : Int) < 1) = false := by simp; omega
  have t4 : decide ((500 : Int) < (count : Int)) = false := by simp; omega
  have t5 : decide ((100 : Int) < (n1 : Int)) = false := by simp; omega
  have t6 : decide ((100 : Int) < (n2 : Int)) = false := by simp; omega
  have hmk := run_make_row' (P := Try.prog) 30 4 (.bool false) 1 Try.underlying30 infoBool rfl .i64 .i64 count (by omega) (by omega)
  have HZ := Lib.hid hz
  have HY := Lib.hid hy
  have HB := Lib.hid (bits_any count n1 c1 n2 c2 a1 a2 zs ys)
  clear hz hy
  go_enter Try.func5, Try.ntmps5
  go_upto_region 5 with fail
  go_cut [7, 8] (fun v7 v8 wx => ∃ ga gb : Nat, v7 = .slice (some ⟨ga, 0, none⟩) count count ∧ v8 = .slice (some ⟨gb, 0, none⟩) count count ∧ w.heap.size ≤ wx.heap.size ∧ Hid (Lw ga gb count w [] [] wx))
  case first =>
    go_region
    all_goals go_wp2_with fail
    all_goals go_meet
    all_goals refine ⟨_, _, rfl, rfl, by simp; omega, ⟨((((Below.refl w.heap.size w).alloc (Nat.le_refl _) _).alloc (by simp) _)).drew, ?_, ?_, ?_, ?_, ?_⟩⟩
    all_goals try (unfold Vec; rw [← made_bools])
    all_goals try (refine at_drew ?_; (repeat (first | (refine heap_at_new _ _ _ ?_; simp; done) | refine at_old ?_ _)); done)
    all_goals omega
  case rest =>
    obtain ⟨ga, gb, rfl, rfl, hsz, HL⟩ := hcut
    clear hmk
    go_wp2_with fail
    go_loopw [49] (fun i wr => ∃ k : Nat, k ≤ n1 ∧ i = .int .i64 (k : Int) ∧ w.heap.size ≤ wr.heap.size ∧ Hid (Lw ga gb count w (zs.take k) [] wr) ∧ Hid (∀ x ∈ zs.take k, 0 ≤ x ∧ x < count)) (fun i _ => n1 - (intOf i).toNat)
    case atStart => exact ⟨0, Nat.zero_le _, rfl, hsz, HL, Lib.hid (by simp)⟩
    case round =>
      obtain ⟨k, hk, rfl, hszr, HR, HV⟩ := hrel
      by_cases hlt : k < n1
      · have hkl : k < zs.length := by rw [HZ.out.1]; exact hlt
        obtain ⟨b, off, ha, hbB, hcell⟩ := HZ.out.2.resolve_left (by omega)
        have hix := fun w => run_indexAt a1 b off n1 c1 k w ha hlt
        have ck := (HR.out.bel.cell (p := ⟨b, off + k, none⟩) hbB).trans (hcell k hkl)
        have htk : zs.take (k + 1) = zs.take k ++ [zs[k]] := List.take_succ_eq_append_getElem hkl
        obtain ⟨zi, hzi⟩ : ∃ zi, zi = zs[k] := ⟨_, rfl⟩
        rw [← hzi] at ck htk
        have HT := Lib.hid htk
        clear ha hcell hbB htk hkl hzi
        by_cases z0 : zi < 0
        · have t8 : decide (zi < 0) = true := by simpa using z0
          go_wp2_with fail
          go_ret
          exact ⟨rfl, HR.out.bel⟩
        · have t8 : decide (zi < 0) = false := by simpa using z0
          obtain ⟨z, rfl⟩ : ∃ z : Nat, zi = (z : Int) := ⟨zi.toNat, by omega⟩
          clear z0 t8
          have t8 : decide ((z : Int) < 0) = false := by simp
          by_cases z1 : count ≤ z
          · have t9 : decide (count ≤ z) = true := by simpa using z1
            go_wp2_with fail
            go_ret
            exact ⟨rfl, HR.out.bel⟩
          · have t9 : decide (count ≤ z) = false := by simpa using z1
            have hzc : z < count := by omega
            have HR2 := Lib.hid (HR.out.setA z hzc)
            rw [← HT.out] at HR2
            have HV2 : Hid (∀ x ∈ zs.take (k + 1), 0 ≤ x ∧ x < count) := by
              unfold Hid
              rw [HT.out]
              intro x hx
              rcases List.mem_append.1 hx with hx | hx
              · exact HV.out x hx
              · simp at hx; subst hx; omega
            have f1 := HR.out.a.free z
            obtain ⟨v9, hv9⟩ : ∃ v, wr.cell? ⟨ga, z, none⟩ = some v := ⟨_, HR.out.a.cell (bools_at hzc)⟩
            have hs9 : w.heap.size ≤ (wr.setCell ⟨ga, z, none⟩ (.bool true)).heap.size := by simpa using hszr
            clear HV HR
            go_wp2_with fail
            go_roundw
            case rel => exact ⟨k + 1, by omega, by go_num, hs9, HR2, HV2⟩
            case measure => simp [intOf]; omega
      · obtain rfl : k = n1 := by omega
        have HR1 := HR.out
        have hv1 := HV.out
        rw [List.take_of_length_le (by rw [HZ.out.1]; exact Nat.le_refl _)] at HR1 hv1
        have HR1 := Lib.hid HR1
        have HV1 := Lib.hid hv1
        clear HR HV hv1
        go_wp2_with fail
        go_loopw [66] (fun i wr => ∃ k : Nat, k ≤ n2 ∧ i = .int .i64 (k : Int) ∧ w.heap.size ≤ wr.heap.size ∧ Hid (Lw ga gb count w zs (ys.take k) wr) ∧ Hid (∀ x ∈ ys.take k, 0 ≤ x ∧ x < count)) (fun i _ => n2 - (intOf i).toNat)
        case atStart => exact ⟨0, Nat.zero_le _, rfl, hszr, HR1, Lib.hid (by simp)⟩
        case round =>
          obtain ⟨k, hk, rfl, hszr, HR, HV⟩ := hrel
          by_cases hlt : k < n2
          · have hkl : k < ys.length := by rw [HY.out.1]; exact hlt
            obtain ⟨b, off, ha, hbB, hcell⟩ := HY.out.2.resolve_left (by omega)
            have hix := fun w => run_indexAt a2 b off n2 c2 k w ha hlt
            have ck := (HR.out.bel.cell (p := ⟨b, off + k, none⟩) hbB).trans (hcell k hkl)
            have htk : ys.take (k + 1) = ys.take k ++ [ys[k]] := List.take_succ_eq_append_getElem hkl
            obtain ⟨zi, hzi⟩ : ∃ zi, zi = ys[k] := ⟨_, rfl⟩
            rw [← hzi] at ck htk
            have HT := Lib.hid htk
            clear ha hcell hbB htk hkl hzi
            by_cases z0 : zi < 0
            · have t8 : decide (zi < 0) = true := by simpa using z0
              go_wp2_with fail
              go_ret
              exact ⟨rfl, HR.out.bel⟩
            · have t8 : decide (zi < 0) = false := by simpa using z0
              obtain ⟨z, rfl⟩ : ∃ z : Nat, zi = (z : Int) := ⟨zi.toNat, by omega⟩
              clear z0 t8
              have t8 : decide ((z : Int) < 0) = false := by simp
              by_cases z1 : count ≤ z
              · have t9 : decide (count ≤ z) = true := by simpa using z1
                go_wp2_with fail
                go_ret
                exact ⟨rfl, HR.out.bel⟩
              · have t9 : decide (count ≤ z) = false := by simpa using z1
                have hzc : z < count := by omega
                have HR2 := Lib.hid (HR.out.setB z hzc)
                rw [← HT.out] at HR2
                have HV2 : Hid (∀ x ∈ ys.take (k + 1), 0 ≤ x ∧ x < count) := by
                  unfold Hid
                  rw [HT.out]
                  intro x hx
                  rcases List.mem_append.1 hx with hx | hx
                  · exact HV.out x hx
                  · simp at hx; subst hx; omega
                have f1 := HR.out.b.free z
                obtain ⟨v9, hv9⟩ : ∃ v, wr.cell? ⟨gb, z, none⟩ = some v := ⟨_, HR.out.b.cell (bools_at hzc)⟩
                have hs9 : w.heap.size ≤ (wr.setCell ⟨gb, z, none⟩ (.bool true)).heap.size := by simpa using hszr
                clear HV HR
                go_wp2_with fail
                go_roundw
                case rel => exact ⟨k + 1, by omega, by go_num, hs9, HR2, HV2⟩
                case measure => simp [intOf]; omega
          · obtain rfl : k = n2 := by omega
            have HR2b := HR.out
            have hv1 := HV.out
            rw [List.take_of_length_le (by rw [HY.out.1]; exact Nat.le_refl _)] at HR2b hv1
            have HR2b := Lib.hid HR2b
            have HV2b := Lib.hid hv1
            clear HR HV hv1
            go_wp2_with fail
            have hla := HR2b.out.la
            have HQ0 : Hid (sameB 0 zs ys = true) := Lib.hid (same_zero zs ys)
            go_loopw [13, 83] (fun q i wr => ∃ (k : Nat) (qb : Bool), k ≤ count ∧ i = .int .i64 (k : Int) ∧ q = .bool qb ∧ Hid (sameB k zs ys = qb) ∧ w.heap.size ≤ wr.heap.size ∧ Hid (Lw ga gb count w zs ys wr)) (fun _ i _ => count - (intOf i).toNat)
            case atStart => exact ⟨0, true, Nat.zero_le _, rfl, rfl, HQ0, hszr, HR2b⟩
            case round =>
              obtain ⟨k, qb, hk, rfl, rfl, HQ, hsz3, H3⟩ := hrel
              by_cases hlt : k < count
              · obtain ⟨xa, hxa⟩ : ∃ x, x = decide ((k : Int) ∈ zs) := ⟨_, rfl⟩
                obtain ⟨xb, hxb⟩ : ∃ x, x = decide ((k : Int) ∈ ys) := ⟨_, rfl⟩
                have ca := H3.out.a.cell (bools_at hlt)
                have cb := H3.out.b.cell (bools_at hlt)
                rw [← hxa] at ca
                rw [← hxb] at cb
                have HS := same_succ k zs ys
                rw [HQ.out, ← hxa, ← hxb] at HS
                have HS := Lib.hid HS
                have i0 : (0 : Int) ≤ (k : Int) := by omega
                have i1 : (k : Int) < (count : Int) := by omega
                clear hxa hxb
                cases qb with
                | false =>
                  go_wp2_with fail
                  go_quiet (fail)
                  go_wp2_with fail
                  go_roundw
                  case rel => exact ⟨k + 1, false, by omega, by go_num, rfl, HS, hsz3, Lib.hid (H3.out.grown (below_drewN _ _))⟩
                  case measure => simp [intOf]; omega
                | true =>
                  go_wp2_with fail
                  go_quiet (fail)
                  go_wp2_with fail
                  go_roundw
                  case rel => exact ⟨k + 1, (xa == xb), by omega, by go_num, rfl, HS, hsz3, Lib.hid (H3.out.grown (below_drewN _ _))⟩
                  case measure => simp [intOf]; omega
              · obtain rfl : k = count := by omega
                have CB := HB.out wr hn hn0 (by omega) (by omega) (HZ.out.below H3.out.bel hsz3) (HY.out.below H3.out.bel hsz3) HV1.out HV2b.out
                unfold BitsTold at CB
                rw [HQ.out] at CB
                have CB := Lib.hid CB
                have tq : (qb != qb) = false := by cases qb <;> rfl
                have tn : ((k : Int) != (k : Int)) = false := by simp
                clear HB
                go_wp2_with (first | (go_at_call 8; refine CB.out.mono ?_; rintro e w8 ⟨g, cap, rfl, ho, hb8⟩) | fail)
                have H4 := Lib.hid (H3.out.grown hb8)
                have HO := Lib.hid ho
                clear hb8 ho H3 CB
                go_loopw [122] (fun i wr4 => ∃ (j : Nat), j ≤ k ∧ i = .int .i64 (j : Int) ∧ Hid (Lw ga gb k w zs ys wr4) ∧ Hid (wr4.ownsRow wr.heap.size 4 1 (.slice (some ⟨g, 0, none⟩) k cap) k (boolCells (bm k zs)))) (fun i _ => k - (intOf i).toNat)
                case atStart => exact ⟨0, Nat.zero_le _, rfl, H4, HO⟩
                case round =>
                  obtain ⟨j, hj, rfl, H5, HO5⟩ := hrel
                  by_cases hjk : j < k
                  · obtain ⟨xa, hxa⟩ : ∃ x, x = decide ((j : Int) ∈ zs) := ⟨_, rfl⟩
                    have ca := H5.out.a.cell (bools_at hjk)
                    have cg := row_cell HO5.out (bools_at hjk)
                    rw [← hxa] at ca cg
                    have i0 : (0 : Int) ≤ (j : Int) := by omega
                    have i1 : (j : Int) < (k : Int) := by omega
                    have tx : (xa != xa) = false := by cases xa <;> rfl
                    clear hxa
                    go_wp2_with fail
                    go_quiet (fail)
                    go_wp2_with fail
                    go_roundw
                    case rel => exact ⟨j + 1, by omega, by go_num, Lib.hid (H5.out.grown (below_drewN _ _)), HO5⟩
                    case measure => simp [intOf]; omega
                  · go_wp2_with fail
                    go_ret
                    exact ⟨rfl, H5.out.bel⟩
theorem walk (count : Int) (a1 a2 : Option Addr) (n1 c1 n2 c2 : Nat) (zs ys : List Int) (w : World) (hz : Ints w w.heap.size a1 n1 zs) (hy : Ints w w.heap.size a2 n2 ys) :
    Calls Try.prog 5 #[.int .i64 count, .slice a1 n1 c1, .slice a2 n2 c2] w fun e w' => e = .returned (.bool true) ∧ Below w.heap.size w w' := by
  by_cases h1 : 2147483647 < n1
  · exact out1 count a1 a2 n1 c1 n2 c2 w h1
  by_cases h2 : 2147483647 < n2
  · exact out2 count a1 a2 n1 c1 n2 c2 w h1 h2
  by_cases h3 : count < 1 ∨ 500 < count ∨ 100 < n1 ∨ 100 < n2
  · exact out3 count a1 a2 n1 c1 n2 c2 w h1 h2 h3
  · obtain ⟨c, rfl⟩ : ∃ c : Nat, count = (c : Int) := ⟨count.toNat, by omega⟩
    exact main c n1 c1 n2 c2 a1 a2 zs ys w (by omega) (by omega) (by omega) (by omega) hz hy
theorem ints_of {w : World} {b off len : Nat} {zs : List Int} (hz : len ≤ zs.length) (hcell : ∀ j, j < zs.length → w.cell? ⟨b, off + j, none⟩ = some (.int .i64 (zs.getD j 0))) : Ints w w.heap.size (some ⟨b, off, none⟩) len (zs.take len) := by
  refine ⟨by simp; omega, ?_⟩
  by_cases h0 : len = 0
  · exact .inl h0
  · right
    refine ⟨b, off, rfl, ?_, fun i hi => ?_⟩
    · have := World.block_lt_of_cell? w _ (hcell 0 (by omega))
      exact this
    · have hil : i < zs.length := by simp at hi; omega
      rw [hcell i hil]
      simp [List.getD, List.getElem?_eq_getElem hil]

theorem own : ownKnob Try.prog.godebug = none := by kernel_rfl
theorem laidOut : laidOutB Try.prog = true := by kernel_rfl
set_option maxRecDepth 100000 in
theorem lifted (os : Os) (started : os.Started) (H : Type) (enc : TypeId × Value → H) :
    ReturnsInHanded {} Try.checked os 5 .any (Rows.fnBitsSpec.pre6 enc Try.prog Try.f5 Rows.fnBitsRow.domain false) (Rows.fnBitsSpec.post enc Try.prog Try.f5 false true false false) := by
  refine returnsInHanded_of_change (C := Try.checked) own started (by kernel_rfl) Try.func5
    (ChangeSpec.witness6 (enc := enc) (C := Try.checked) false ⟨#[], #[.int .i64 0, .slice none 0 0, .slice none 0 0], []⟩ 8 (by kernel_rfl) (by kernel_rfl) (by kernel_rfl) (by kernel_rfl)) ?_
  intro W base args ds gs before hval0 hW hcnd _
  have hval : ∀ (j : Nat) t v, Try.f5.params[j]? = some t → args[j]? = some v → Value.okWide Try.prog W .any base t v := hval0
  have hW' := hW
  obtain ⟨p, q, hA0, hV, rfl, hfz, hnd⟩ := hW
  have hA : DataW.TrodAll enc Try.prog W 0 (fun _ => true) true Try.f5.params.toList args.toList ds p := hA0
  rw [Try.params5] at hA hval
  obtain ⟨v0, vs0, d0, ds0, p0, q0, hargs, rfl, rfl, h0, r0⟩ := trodAll_cons hA
  obtain ⟨v1, vs1, d1, ds1, p1, q1, rfl, rfl, rfl, h1, r1⟩ := trodAll_cons r0
  obtain ⟨v2, vs2, d2, ds2, p2, q2, rfl, rfl, rfl, h2, r2⟩ := trodAll_cons r1
  obtain ⟨rfl, rfl, rfl⟩ := trodAll_nil r2
  obtain rfl : args = #[v0, v1, v2] := by cases args; simp_all
  obtain ⟨rfl, rfl⟩ := trodVars_none hV
  have k0 := h0
  have lt0 : ∀ x ∈ p0, x.block < W.heap.size := by obtain ⟨m, hm⟩ := k0; exact DataW.trod_lt m _ _ _ hm
  have k1 := h1
  have lt1 : ∀ x ∈ p1, x.block < W.heap.size := by obtain ⟨m, hm⟩ := k1; exact DataW.trod_lt m _ _ _ hm
  have k2 := h2
  have lt2 : ∀ x ∈ p2, x.block < W.heap.size := by obtain ⟨m, hm⟩ := k2; exact DataW.trod_lt m _ _ _ hm
  obtain ⟨a0, rfl, rfl, rfl, u0⟩ := open_int Try.underlying3 (hval 0 3 v0 rfl rfl) h0
  obtain ⟨a1, len1, cap1, rfl⟩ := okWide_slice Try.underlying29 (hval 1 29 v1 rfl rfl)
  obtain ⟨a2, len2, cap2, rfl⟩ := okWide_slice Try.underlying29 (hval 2 29 v2 rfl rfl)
  obtain ⟨z1, w1⟩ : ∃ zs, Ints W W.heap.size a1 len1 zs := by
    obtain ⟨fuel, hf⟩ := h1
    rcases open_ints Try.underlying29 Try.underlying3 (by kernel_rfl) hf with ⟨hcs, hx⟩ | ⟨a, len', cap', zs, hcs, _, hl, hm, hz, hx, hcell, hwz⟩
    · simp [Value.cells] at hcs
      obtain ⟨rfl, rfl, rfl⟩ := hcs
      exact ⟨[], rfl, .inl rfl⟩
    · simp [Value.cells] at hcs
      obtain ⟨rfl, rfl, rfl⟩ := hcs
      simp only [if_true] at hz
      by_cases h0 : len1 = 0
      · exact ⟨[], h0.symm, .inl h0⟩
      · obtain ⟨b, off, rfl, hc⟩ := ints_at hcell (by omega)
        exact ⟨_, ints_of (by omega) hc⟩
  obtain ⟨z2, w2⟩ : ∃ zs, Ints W W.heap.size a2 len2 zs := by
    obtain ⟨fuel, hf⟩ := h2
    rcases open_ints Try.underlying29 Try.underlying3 (by kernel_rfl) hf with ⟨hcs, hx⟩ | ⟨a, len', cap', zs, hcs, _, hl, hm, hz, hx, hcell, hwz⟩
    · simp [Value.cells] at hcs
      obtain ⟨rfl, rfl, rfl⟩ := hcs
      exact ⟨[], rfl, .inl rfl⟩
    · simp [Value.cells] at hcs
      obtain ⟨rfl, rfl, rfl⟩ := hcs
      simp only [if_true] at hz
      by_cases h0 : len2 = 0
      · exact ⟨[], h0.symm, .inl h0⟩
      · obtain ⟨b, off, rfl, hc⟩ := ints_at hcell (by omega)
        exact ⟨_, ints_of (by omega) hc⟩
  clear hA0 hval0
  refine (walk a0 a1 a2 len1 cap1 len2 cap2 z1 z2 W w1 w2).mono fun e W' ⟨he, bel⟩ => ?_
  subst he
  exact ⟨_, rfl, _, _, _, [], _, [], hW', trodAll_mk1 (shut_bool Try.underlying4 _), (trodAll_cons_mk (Below.trod laidOut (by kernel_rfl) (of_decide_eq_true (by kernel_rfl)) k0 bel lt0) (trodAll_cons_mk (Below.trod laidOut (by kernel_rfl) (of_decide_eq_true (by kernel_rfl)) k1 bel lt1) (trodAll_cons_mk (Below.trod laidOut (by kernel_rfl) (of_decide_eq_true (by kernel_rfl)) k2 bel lt2) trodAll_mk0))), rfl, bel.frame _, fun h => by cases h⟩

theorem over : Rows.fnBitsRow.holds Try.pinned (OpenSpec.ofChange Rows.fnBitsSpec) :=
  OpenClaim.holds_of_wide 5 Try.f5 rfl rfl rfl rfl rfl rfl rfl ⟨rfl, rfl, rfl, rfl, rfl⟩ rfl rfl rfl rfl rfl (by kernel_rfl) Try.func5 (by kernel_rfl)
    (of_decide_eq_true (by kernel_rfl)) (by unfold Func.isWrapper; first | (rw [if_pos (by decide +kernel)]; kernel_rfl) | (rw [if_neg (by decide +kernel)]; exact ⟨rfl, rfl⟩))
    (fun os started H enc _ => lifted os started H enc)
theorem proved : Rows.FnBitsSaid := over
#print axioms proved
end Go.Proofs.Ytibkicllbfheiaa.fnBits
