/- FnFound holds for every mappings, line and column: no condition. -/
import Derived.Test.YtfpfpdjnmfiffaaFoundO
import Derived.ProofKit
import Derived.OpenShut
import Derived.ShutString
import Derived.ChangeOld
import Derived.Deep.Slices
import Derived.Deep.RegionWith
import Derived.Lib.SmallJoins
import Derived.Deep.QuietTactic
import Derived.BigQuiet
namespace Go.Proofs.Ytfpfpdjnmfiffaa.fnFound
open Go.ChangeShapes Go.WideShapes Go.ChangeAt Go.RowKit
open Go.ChangeMaps (open_string shut_string)
set_option linter.unusedVariables false
set_option linter.unusedSimpArgs false

theorem fine_step {l : List Mp} {k : Nat} (h : AllFine l k) (hk : k < l.length) (hm : (l[k]).Fine) : AllFine l (k + 1) := by
  intro i hi hik
  rcases Nat.lt_or_ge i k with h1 | h1
  · exact h i hi h1
  · obtain rfl : i = k := by omega
    exact hm
theorem rising_step {l : List Mp} {k : Nat} (h : Rising l k) (hk : k < l.length) (hm : ∀ h0 : 0 < k, (l[k - 1]'(by omega)).before l[k]) : Rising l (k + 1) := by
  intro i hi hik
  rcases Nat.lt_or_ge (i + 1) k with h1 | h1
  · exact h i hi h1
  · obtain rfl : k = i + 1 := by omega
    exact hm (by omega)
theorem gotten.one {l : List Mp} {i : Nat} (hi : i < l.length) {w : World} {m : Mp} (hm : m = l[i]) : gotten l (some i) (w.alloc (.cells m.icells.toArray 29)) (.slice (some ⟨w.heap.size, 0, none⟩) 1 1) := by
  subst hm
  exact ⟨hi, _, rfl, heap_alloc_new _ _⟩
theorem got_cell {w : World} {g : Nat} {m : Mp} (h : w.heap[g]? = some (.cells m.icells.toArray 29)) (j : Nat) (u : Value) (hu : m.icells[j]? = some u) : w.cell? ⟨g, j, none⟩ = some u := by
  rw [Lib.cell_of_heap h]
  simpa using hu

set_option maxRecDepth 100000 in
set_option maxHeartbeats 2000000 in
theorem empty (a : Option Addr) (cap : Nat) (line col : Int) (w : World) (l1 : 0 ≤ line) (l2 : line ≤ 1000) (e1 : 0 ≤ col) (e2 : col ≤ 10000) :
    Calls Try.prog 4 #[.slice a 0 cap, .int .i64 line, .int .i64 col] w fun e w' => e = .returned (.bool true) ∧ Below w.heap.size w w' := by
  have t1 : decide ((2147483647 : Int) < ((0 : Nat) : Int)) = false := by first | (simp; done) | (simp; omega)
  have t2 : decide ((100 : Int) < ((0 : Nat) : Int)) = false := by first | (simp; done) | (simp; omega)
  have t3 : decide (line < 0) = false := by simp; omega
  have t4 : decide ((1000 : Int) < line) = false := by simp; omega
  have t5 : decide (col < 0) = false := by simp; omega
  have t6 : decide ((10000 : Int) < col) = false := by simp; omega
  go_enter Try.func4, Try.ntmps4
  go_wp2
  refine wp_loop_rounds 1 ?_
  rw [rounds_succ]
  go_wp2_with (first | (go_at_call_of 11 (Value.slice a 0 cap); refine (found_nil line col a cap w ⟨l1, l2⟩ ⟨e1, e2⟩).mono ?_; rintro e w2 ⟨rfl, hb2⟩) | (go_at_call 11; refine (probe_found _).mono ?_; rintro e w3 ⟨g3, rfl, hb3⟩) | fail)
  go_quiet (fail)
  go_wp2
  go_ret
  exact ⟨rfl, (hb2.trans (hb3.mono hb2.size)).trans (Joins.below_draws _ _ _)⟩

set_option maxRecDepth 100000 in
set_option maxHeartbeats 8000000 in
theorem main (l : List Mp) (b off cap n : Nat) (line col : Int) (w : World) (hl : l.length = n) (hn : n ≤ 100) (hlt : b < w.heap.size) (hc : Cells6 w b off l Mp.icells) (l1 : 0 ≤ line) (l2 : line ≤ 1000) (e1 : 0 ≤ col) (e2 : col ≤ 10000) :
    Calls Try.prog 4 #[.slice (some ⟨b, off, none⟩) n cap, .int .i64 line, .int .i64 col] w fun e w' => e = .returned (.bool true) ∧ Below w.heap.size w w' := by
  have t1 : decide ((2147483647 : Int) < (n : Int)) = false := by first | (simp; done) | (simp; omega)
  have t2 : decide ((100 : Int) < (n : Int)) = false := by first | (simp; done) | (simp; omega)
  have t3 : decide (line < 0) = false := by simp; omega
  have t4 : decide ((1000 : Int) < line) = false := by simp; omega
  have t5 : decide (col < 0) = false := by simp; omega
  have t6 : decide ((10000 : Int) < col) = false := by simp; omega
  have Hm : Hid (Maps w (some ⟨b, off, none⟩) n l) := ⟨hl, .inr ⟨b, off, rfl, hlt, hc⟩⟩
  have HC := Lib.hid hc
  have HL := Lib.hid hl
  clear hc hl
  go_enter Try.func4, Try.ntmps4
  go_wp2
  go_loopw [7, 36] (fun v i wr => ∃ (k : Nat) (o : Option Nat), k ≤ n ∧ i = .int .i64 k ∧ Hid (AllFine l k) ∧ Hid (Rising l k) ∧ Hid (Last l line col k o) ∧ Hid (gotten l o wr v) ∧ Below w.heap.size w wr) (fun _ i _ => n - (intOf i).toNat)
  case atStart => exact ⟨0, none, Nat.zero_le _, rfl, fun i hi h => by omega, fun i hi h => by omega, fun j hj h => by omega, rfl, Below.refl _ _⟩
  case round =>
    obtain ⟨k, o, hk, rfl, HA, HR, HO, HG, hbw⟩ := hrel
    by_cases hkn : k < n
    · have hkl : k < l.length := by rw [HL.out]; exact hkn
      have hcc := fun j u => (HC.out.keep hlt hbw) k hkl j u
      have hpp : ∀ h0 : 0 < k, ∀ W, Below wr.heap.size wr W → ∀ (j : Nat) (u : Value), ((l[k - 1]'(by omega)).icells)[j]? = some u → W.cell? ⟨b, off + (k - 1) * 6 + j, none⟩ = some u := fun h0 W hW j u hu => ((HC.out.keep hlt hbw).keep (Nat.lt_of_lt_of_le hlt hbw.size) hW) (k - 1) (by omega) j u hu
      obtain ⟨q, hq⟩ : ∃ q, q = l[k] := ⟨_, rfl⟩
      rw [← hq] at hcc
      have HQ := Lib.hid hq
      have HPP := Lib.hid hpp
      clear hq hpp
      obtain ⟨x0, x1, x2, x3, x4, x5⟩ := q

      have c0 : wr.cell? ⟨b, off + k * 6, none⟩ = some (.int .i64 x0) := by have h := hcc 0 _ rfl; simpa using h
      have c1 : wr.cell? ⟨b, off + k * 6 + 1, none⟩ = some (.int .i64 x1) := by have h := hcc 1 _ rfl; simpa using h
      have c2 : wr.cell? ⟨b, off + k * 6 + 2, none⟩ = some (.int .i64 x2) := by have h := hcc 2 _ rfl; simpa using h
      have c3 : wr.cell? ⟨b, off + k * 6 + 3, none⟩ = some (.int .i64 x3) := by have h := hcc 3 _ rfl; simpa using h
      have c4 : wr.cell? ⟨b, off + k * 6 + 4, none⟩ = some (.int .i64 x4) := by have h := hcc 4 _ rfl; simpa using h
      have c5 : wr.cell? ⟨b, off + k * 6 + 5, none⟩ = some (.int .i64 x5) := by have h := hcc 5 _ rfl; simpa using h
      clear hcc
      by_cases q0 : x0 < 0
      · have b0 : decide (x0 < 0) = true := by simpa using q0
        go_wp2_with fail
        go_ret
        exact ⟨rfl, hbw.alloc hbw.size _⟩
      have b0 : decide (x0 < 0) = false := by simpa using q0
      by_cases q1 : 1000 < x0
      · have b1 : decide ((1000 : Int) < x0) = true := by simpa using q1
        go_wp2_with fail
        go_ret
        exact ⟨rfl, hbw.alloc hbw.size _⟩
      have b1 : decide ((1000 : Int) < x0) = false := by simpa using q1
      by_cases q2 : x1 < 0
      · have b2 : decide (x1 < 0) = true := by simpa using q2
        go_wp2_with fail
        go_ret
        exact ⟨rfl, hbw.alloc hbw.size _⟩
      have b2 : decide (x1 < 0) = false := by simpa using q2
      by_cases q3 : 10000 < x1
      · have b3 : decide ((10000 : Int) < x1) = true := by simpa using q3
        go_wp2_with fail
        go_ret
        exact ⟨rfl, hbw.alloc hbw.size _⟩
      have b3 : decide ((10000 : Int) < x1) = false := by simpa using q3
      by_cases q4 : x2 < 0
      · have b4 : decide (x2 < 0) = true := by simpa using q4
        go_wp2_with fail
        go_ret
        exact ⟨rfl, hbw.alloc hbw.size _⟩
      have b4 : decide (x2 < 0) = false := by simpa using q4
      by_cases q5 : 1000 < x2
      · have b5 : decide ((1000 : Int) < x2) = true := by simpa using q5
        go_wp2_with fail
        go_ret
        exact ⟨rfl, hbw.alloc hbw.size _⟩
      have b5 : decide ((1000 : Int) < x2) = false := by simpa using q5
      by_cases q6 : x3 < 0
      · have b6 : decide (x3 < 0) = true := by simpa using q6
        go_wp2_with fail
        go_ret
        exact ⟨rfl, hbw.alloc hbw.size _⟩
      have b6 : decide (x3 < 0) = false := by simpa using q6
      by_cases q7 : 1000 < x3
      · have b7 : decide ((1000 : Int) < x3) = true := by simpa using q7
        go_wp2_with fail
        go_ret
        exact ⟨rfl, hbw.alloc hbw.size _⟩
      have b7 : decide ((1000 : Int) < x3) = false := by simpa using q7
      by_cases q8 : x4 < 0
      · have b8 : decide (x4 < 0) = true := by simpa using q8
        go_wp2_with fail
        go_ret
        exact ⟨rfl, hbw.alloc hbw.size _⟩
      have b8 : decide (x4 < 0) = false := by simpa using q8
      by_cases q9 : 10000 < x4
      · have b9 : decide ((10000 : Int) < x4) = true := by simpa using q9
        go_wp2_with fail
        go_ret
        exact ⟨rfl, hbw.alloc hbw.size _⟩
      have b9 : decide ((10000 : Int) < x4) = false := by simpa using q9
      by_cases q10 : x5 < (-1)
      · have b10 : decide (x5 < (-1)) = true := by simpa using q10
        go_wp2_with fail
        go_ret
        exact ⟨rfl, hbw.alloc hbw.size _⟩
      have b10 : decide (x5 < (-1)) = false := by simpa using q10
      by_cases q11 : 1000 < x5
      · have b11 : decide ((1000 : Int) < x5) = true := by simpa using q11
        go_wp2_with fail
        go_ret
        exact ⟨rfl, hbw.alloc hbw.size _⟩
      have b11 : decide ((1000 : Int) < x5) = false := by simpa using q11
      have HFN := Lib.hid (show (Mp.mk x0 x1 x2 x3 x4 x5).Fine from ⟨Int.not_lt.1 q0, Int.not_lt.1 q1, Int.not_lt.1 q2, Int.not_lt.1 q3, Int.not_lt.1 q4, Int.not_lt.1 q5, Int.not_lt.1 q6, Int.not_lt.1 q7, Int.not_lt.1 q8, Int.not_lt.1 q9, Int.not_lt.1 q10, Int.not_lt.1 q11⟩)
      have HA2 := Lib.hid (fine_step HA.out hkl (by rw [← HQ.out]; exact HFN.out))
      go_wp2_with fail
      clear b0 b1 b2 b3 b4 b5 b6 b7 b8 b9 b10 b11 q0 q1 q2 q3 q4 q5 q6 q7 q8 q9 q10 q11
      have hbW := hbw.alloc hbw.size (.cells #[.int .i64 x0, .int .i64 x1, .int .i64 x2, .int .i64 x3, .int .i64 x4, .int .i64 x5] 29)
      have hWB := (Below.refl _ wr).alloc (Nat.le_refl _) (.cells #[.int .i64 x0, .int .i64 x1, .int .i64 x2, .int .i64 x3, .int .i64 x4, .int .i64 x5] 29)
      have hW0 := heap_alloc_new wr (.cells #[.int .i64 x0, .int .i64 x1, .int .i64 x2, .int .i64 x3, .int .i64 x4, .int .i64 x5] 29)
      have hGW := HG.out.lt hWB
      generalize wr.alloc (.cells #[.int .i64 x0, .int .i64 x1, .int .i64 x2, .int .i64 x3, .int .i64 x4, .int .i64 x5] 29) = W at hbW hWB hW0 hGW ⊢
      have p := got_cell (m := ⟨x0, x1, x2, x3, x4, x5⟩) hW0
      have d0 := p 0 _ rfl
      have d1 := p 1 _ rfl
      have d2 := p 2 _ rfl
      have d3 := p 3 _ rfl
      have d4 := p 4 _ rfl
      have d5 := p 5 _ rfl
      have hsz : wr.heap.size < W.heap.size := (Array.getElem?_eq_some_iff.1 hW0).1
      have HG2 := Lib.hid hGW
      clear p hW0 hGW HG c0 c1 c2 c3 c4 c5
      by_cases h0 : 0 < k
      · have k1 : decide ((0 : Int) < (k : Int)) = true := by simp; omega
        have hp := HPP.out h0 W hWB
        have hkm : k - 1 < n := by omega
        obtain ⟨r, hr⟩ : ∃ r, r = l[k - 1]'(by omega) := ⟨_, rfl⟩
        rw [← hr] at hp
        have HRR := Lib.hid hr
        clear hr
        obtain ⟨y0, y1, y2, y3, y4, y5⟩ := r
        have r0 : W.cell? ⟨b, off + (k - 1) * 6, none⟩ = some (.int .i64 y0) := by have h := hp 0 _ rfl; simpa using h
        have r1 : W.cell? ⟨b, off + (k - 1) * 6 + 1, none⟩ = some (.int .i64 y1) := by have h := hp 1 _ rfl; simpa using h
        clear hp
        by_cases q1 : x0 < y0
        · have s1 : decide (x0 < y0) = true := by simpa using q1
          go_quiet (fail)
          go_wp2
          go_ret
          exact ⟨rfl, hbW.trans (Joins.below_draws _ _ _)⟩
        · have s1 : decide (x0 < y0) = false := by simpa using q1
          by_cases q2 : y0 = x0
          · have s2 : (y0 == x0) = true := by simpa using q2
            by_cases q3 : x1 ≤ y1
            · have s3 : decide (x1 ≤ y1) = true := by simpa using q3
              go_quiet (fail)
              go_wp2
              go_ret
              exact ⟨rfl, hbW.trans (Joins.below_draws _ _ _)⟩
            · have s3 : decide (x1 ≤ y1) = false := by simpa using q3
              go_quiet (fail)
              clear s1 s2 s3 k1
              have HR2 := Lib.hid (rising_step HR.out hkl (fun _ => by rw [← HQ.out, ← HRR.out]; exact Or.inr ⟨q2, by show y1 < x1; omega⟩))
              by_cases g1 : x0 = line
              · by_cases g2 : x1 ≤ col
                · have s1 : (x0 == line) = true := by simpa using g1
                  have s2 : decide (x1 ≤ col) = true := by simpa using g2
                  have HO2 := Lib.hid (Last.hits hkl (by rw [← HQ.out]; exact (⟨g1, g2⟩ : (Mp.mk x0 x1 x2 x3 x4 x5).hit line col)))
                  go_wp2
                  go_roundw
                  case rel => exact ⟨k + 1, some k, by omega, by simp, HA2, HR2, HO2, gotten.one hkl (show Mp.mk line x1 x2 x3 x4 x5 = l[k] by rw [← g1]; exact HQ.out), (hbW.trans (Joins.below_draws _ _ _)).alloc (hbW.trans (Joins.below_draws _ _ _)).size _⟩
                  case measure => simp [intOf]; omega
                · have s1 : (x0 == line) = true := by simpa using g1
                  have s2 : decide (x1 ≤ col) = false := by simpa using g2
                  have HO2 := Lib.hid (Last.miss HO.out hkl (by rw [← HQ.out]; exact fun h => g2 h.2))
                  go_wp2
                  go_roundw
                  case rel => exact ⟨k + 1, o, by omega, by simp, HA2, HR2, HO2, HG2.out.lt (Joins.below_draws _ _ _), hbW.trans (Joins.below_draws _ _ _)⟩
                  case measure => simp [intOf]; omega
              · have s1 : (x0 == line) = false := by simpa using g1
                have HO2 := Lib.hid (Last.miss HO.out hkl (by rw [← HQ.out]; exact fun h => g1 h.1))
                go_wp2
                go_roundw
                case rel => exact ⟨k + 1, o, by omega, by simp, HA2, HR2, HO2, HG2.out.lt (Joins.below_draws _ _ _), hbW.trans (Joins.below_draws _ _ _)⟩
                case measure => simp [intOf]; omega
          · have s2 : (y0 == x0) = false := by simpa using q2
            go_quiet (fail)
            clear s1 s2 k1
            have HR2 := Lib.hid (rising_step HR.out hkl (fun _ => by rw [← HQ.out, ← HRR.out]; exact Or.inl (by show y0 < x0; omega)))
            by_cases g1 : x0 = line
            · by_cases g2 : x1 ≤ col
              · have s1 : (x0 == line) = true := by simpa using g1
                have s2 : decide (x1 ≤ col) = true := by simpa using g2
                have HO2 := Lib.hid (Last.hits hkl (by rw [← HQ.out]; exact (⟨g1, g2⟩ : (Mp.mk x0 x1 x2 x3 x4 x5).hit line col)))
                go_wp2
                go_roundw
                case rel => exact ⟨k + 1, some k, by omega, by simp, HA2, HR2, HO2, gotten.one hkl (show Mp.mk line x1 x2 x3 x4 x5 = l[k] by rw [← g1]; exact HQ.out), (hbW.trans (Joins.below_draws _ _ _)).alloc (hbW.trans (Joins.below_draws _ _ _)).size _⟩
                case measure => simp [intOf]; omega
              · have s1 : (x0 == line) = true := by simpa using g1
                have s2 : decide (x1 ≤ col) = false := by simpa using g2
                have HO2 := Lib.hid (Last.miss HO.out hkl (by rw [← HQ.out]; exact fun h => g2 h.2))
                go_wp2
                go_roundw
                case rel => exact ⟨k + 1, o, by omega, by simp, HA2, HR2, HO2, HG2.out.lt (Joins.below_draws _ _ _), hbW.trans (Joins.below_draws _ _ _)⟩
                case measure => simp [intOf]; omega
            · have s1 : (x0 == line) = false := by simpa using g1
              have HO2 := Lib.hid (Last.miss HO.out hkl (by rw [← HQ.out]; exact fun h => g1 h.1))
              go_wp2
              go_roundw
              case rel => exact ⟨k + 1, o, by omega, by simp, HA2, HR2, HO2, HG2.out.lt (Joins.below_draws _ _ _), hbW.trans (Joins.below_draws _ _ _)⟩
              case measure => simp [intOf]; omega
      · have k1 : decide ((0 : Int) < (k : Int)) = false := by simp; omega
        go_quiet (fail)
        clear k1
        have HR2 := Lib.hid (rising_step HR.out hkl (fun h => absurd h h0))
        by_cases g1 : x0 = line
        · by_cases g2 : x1 ≤ col
          · have s1 : (x0 == line) = true := by simpa using g1
            have s2 : decide (x1 ≤ col) = true := by simpa using g2
            have HO2 := Lib.hid (Last.hits hkl (by rw [← HQ.out]; exact (⟨g1, g2⟩ : (Mp.mk x0 x1 x2 x3 x4 x5).hit line col)))
            go_wp2
            go_roundw
            case rel => exact ⟨k + 1, some k, by omega, by simp, HA2, HR2, HO2, gotten.one hkl (show Mp.mk line x1 x2 x3 x4 x5 = l[k] by rw [← g1]; exact HQ.out), (hbW.trans (Joins.below_draws _ _ _)).alloc (hbW.trans (Joins.below_draws _ _ _)).size _⟩
            case measure => simp [intOf]; omega
          · have s1 : (x0 == line) = true := by simpa using g1
            have s2 : decide (x1 ≤ col) = false := by simpa using g2
            have HO2 := Lib.hid (Last.miss HO.out hkl (by rw [← HQ.out]; exact fun h => g2 h.2))
            go_wp2
            go_roundw
            case rel => exact ⟨k + 1, o, by omega, by simp, HA2, HR2, HO2, HG2.out.lt (Joins.below_draws _ _ _), hbW.trans (Joins.below_draws _ _ _)⟩
            case measure => simp [intOf]; omega
        · have s1 : (x0 == line) = false := by simpa using g1
          have HO2 := Lib.hid (Last.miss HO.out hkl (by rw [← HQ.out]; exact fun h => g1 h.1))
          go_wp2
          go_roundw
          case rel => exact ⟨k + 1, o, by omega, by simp, HA2, HR2, HO2, HG2.out.lt (Joins.below_draws _ _ _), hbW.trans (Joins.below_draws _ _ _)⟩
          case measure => simp [intOf]; omega
    · obtain rfl : k = n := by omega
      have CF := found_any l line col o (some ⟨b, off, none⟩) cap k wr (Hm.out.keep hbw) (by omega) (by rw [HL.out]; exact HR.out) (by rw [HL.out]; exact HA.out) (by rw [HL.out]; exact HO.out) ⟨l1, l2⟩ ⟨e1, e2⟩
      cases o with
      | none =>
        obtain rfl : u7 = .slice none 0 0 := HG.out
        go_wp2_with (first | (go_at_call_of 11 (Value.slice (some ⟨b, off, none⟩) k cap); refine CF.mono ?_; rintro e w2 ⟨v2, rfl, hg2, hb2⟩; obtain rfl := hg2) | (go_at_call 11; refine (probe_found _).mono ?_; rintro e w3 ⟨g3, rfl, hb3⟩) | fail)
        go_quiet (fail)
        go_wp2
        go_ret
        exact ⟨rfl, ((hbw.trans (hb2.mono hbw.size)).trans (hb3.mono (Nat.le_trans hbw.size hb2.size))).trans (Joins.below_draws _ _ _)⟩
      | some i =>
        obtain ⟨hi, g, rfl, hg⟩ := HG.out
        have HGG := Lib.hid hg
        clear hg
        go_wp2_with (first | (go_at_call_of 11 (Value.slice (some ⟨b, off, none⟩) k cap); refine CF.mono ?_; rintro e w2 ⟨v2, rfl, ⟨_, g2, rfl, hg2⟩, hb2⟩; have HG2 := Lib.hid hg2; clear hg2) | (go_at_call 11; refine (probe_found _).mono ?_; rintro e w3 ⟨g3, rfl, hb3⟩) | fail)
        have f1 : w3.heap[g]? = some (.cells (l[i]).icells.toArray 29) := by rw [hb3.block g (Nat.lt_of_lt_of_le (Array.getElem?_eq_some_iff.1 HGG.out).1 hb2.size), hb2.block g (Array.getElem?_eq_some_iff.1 HGG.out).1]; exact HGG.out
        have f2 : w3.heap[g2]? = some (.cells (l[i]).icells.toArray 29) := by rw [hb3.block g2 (Array.getElem?_eq_some_iff.1 HG2.out).1]; exact HG2.out
        have p1 := got_cell f1
        have p2 := got_cell f2
        clear f1 f2
        generalize l[i] = m at p1 p2
        obtain ⟨x0, x1, x2, x3, x4, x5⟩ := m
        have c0 := p1 0 _ rfl
        have d0 := p2 0 _ rfl
        have c1 := p1 1 _ rfl
        have d1 := p2 1 _ rfl
        have c2 := p1 2 _ rfl
        have d2 := p2 2 _ rfl
        have c3 := p1 3 _ rfl
        have d3 := p2 3 _ rfl
        have c4 := p1 4 _ rfl
        have d4 := p2 4 _ rfl
        have c5 := p1 5 _ rfl
        have d5 := p2 5 _ rfl
        clear p1 p2
        go_quiet (fail)
        go_wp2
        go_ret
        exact ⟨rfl, ((hbw.trans (hb2.mono hbw.size)).trans (hb3.mono (Nat.le_trans hbw.size hb2.size))).trans (Joins.below_draws _ _ _)⟩

set_option maxRecDepth 100000 in
set_option maxHeartbeats 1000000 in
theorem e0 (a : Option Addr) (n cap : Nat) (line col : Int) (w : World) (hn : n ≤ 9223372036854775807)  (h0 : 2147483647 < n) :
    Calls Try.prog 4 #[.slice a n cap, .int .i64 line, .int .i64 col] w fun e w' => e = .returned (.bool true) ∧ Below w.heap.size w w' := by
  have t0 : decide ((2147483647 : Int) < (n : Int)) = true := by simp; omega
  go_enter Try.func4, Try.ntmps4
  go_wp2
  go_ret
  exact ⟨rfl, Below.refl _ _⟩

set_option maxRecDepth 100000 in
set_option maxHeartbeats 1000000 in
theorem e1 (a : Option Addr) (n cap : Nat) (line col : Int) (w : World) (hn : n ≤ 9223372036854775807) (h0 : n ≤ 2147483647) (h1 : 100 < n) :
    Calls Try.prog 4 #[.slice a n cap, .int .i64 line, .int .i64 col] w fun e w' => e = .returned (.bool true) ∧ Below w.heap.size w w' := by
  have t0 : decide ((2147483647 : Int) < (n : Int)) = false := by simp; omega
  have t1 : decide ((100 : Int) < (n : Int)) = true := by simp; omega
  go_enter Try.func4, Try.ntmps4
  go_wp2
  go_ret
  exact ⟨rfl, Below.refl _ _⟩

set_option maxRecDepth 100000 in
set_option maxHeartbeats 1000000 in
theorem e2 (a : Option Addr) (n cap : Nat) (line col : Int) (w : World) (hn : n ≤ 9223372036854775807) (h0 : n ≤ 2147483647) (h1 : n ≤ 100) (h2 : line < 0) :
    Calls Try.prog 4 #[.slice a n cap, .int .i64 line, .int .i64 col] w fun e w' => e = .returned (.bool true) ∧ Below w.heap.size w w' := by
  have t0 : decide ((2147483647 : Int) < (n : Int)) = false := by simp; omega
  have t1 : decide ((100 : Int) < (n : Int)) = false := by simp; omega
  have t2 : decide (line < 0) = true := by simp; omega
  go_enter Try.func4, Try.ntmps4
  go_wp2
  go_ret
  exact ⟨rfl, Below.refl _ _⟩

set_option maxRecDepth 100000 in
set_option maxHeartbeats 1000000 in
theorem e3 (a : Option Addr) (n cap : Nat) (line col : Int) (w : World) (hn : n ≤ 9223372036854775807) (h0 : n ≤ 2147483647) (h1 : n ≤ 100) (h2 : 0 ≤ line) (h3 : 1000 < line) :
    Calls Try.prog 4 #[.slice a n cap, .int .i64 line, .int .i64 col] w fun e w' => e = .returned (.bool true) ∧ Below w.heap.size w w' := by
  have t0 : decide ((2147483647 : Int) < (n : Int)) = false := by simp; omega
  have t1 : decide ((100 : Int) < (n : Int)) = false := by simp; omega
  have t2 : decide (line < 0) = false := by simp; omega
  have t3 : decide ((1000 : Int) < line) = true := by simp; omega
  go_enter Try.func4, Try.ntmps4
  go_wp2
  go_ret
  exact ⟨rfl, Below.refl _ _⟩

set_option maxRecDepth 100000 in
set_option maxHeartbeats 1000000 in
theorem e4 (a : Option Addr) (n cap : Nat) (line col : Int) (w : World) (hn : n ≤ 9223372036854775807) (h0 : n ≤ 2147483647) (h1 : n ≤ 100) (h2 : 0 ≤ line) (h3 : line ≤ 1000) (h4 : col < 0) :
    Calls Try.prog 4 #[.slice a n cap, .int .i64 line, .int .i64 col] w fun e w' => e = .returned (.bool true) ∧ Below w.heap.size w w' := by
  have t0 : decide ((2147483647 : Int) < (n : Int)) = false := by simp; omega
  have t1 : decide ((100 : Int) < (n : Int)) = false := by simp; omega
  have t2 : decide (line < 0) = false := by simp; omega
  have t3 : decide ((1000 : Int) < line) = false := by simp; omega
  have t4 : decide (col < 0) = true := by simp; omega
  go_enter Try.func4, Try.ntmps4
  go_wp2
  go_ret
  exact ⟨rfl, Below.refl _ _⟩

set_option maxRecDepth 100000 in
set_option maxHeartbeats 1000000 in
theorem e5 (a : Option Addr) (n cap : Nat) (line col : Int) (w : World) (hn : n ≤ 9223372036854775807) (h0 : n ≤ 2147483647) (h1 : n ≤ 100) (h2 : 0 ≤ line) (h3 : line ≤ 1000) (h4 : 0 ≤ col) (h5 : 10000 < col) :
    Calls Try.prog 4 #[.slice a n cap, .int .i64 line, .int .i64 col] w fun e w' => e = .returned (.bool true) ∧ Below w.heap.size w w' := by
  have t0 : decide ((2147483647 : Int) < (n : Int)) = false := by simp; omega
  have t1 : decide ((100 : Int) < (n : Int)) = false := by simp; omega
  have t2 : decide (line < 0) = false := by simp; omega
  have t3 : decide ((1000 : Int) < line) = false := by simp; omega
  have t4 : decide (col < 0) = false := by simp; omega
  have t5 : decide ((10000 : Int) < col) = true := by simp; omega
  go_enter Try.func4, Try.ntmps4
  go_wp2
  go_ret
  exact ⟨rfl, Below.refl _ _⟩

theorem walk (a : Option Addr) (n cap : Nat) (l : List Mp) (line : Int) (wl : (Lit.int .i64 line).wf = true) (col : Int) (wc : (Lit.int .i64 col).wf = true) (w : World) (hm : Maps w a n l) (hn : n ≤ maxLen) :
    Calls Try.prog 4 #[.slice a n cap, .int .i64 line, .int .i64 col] w fun e w' => e = .returned (.bool true) ∧ Below w.heap.size w w' := by
  unfold maxLen at hn
  by_cases h0 : n ≤ 2147483647
  · by_cases h1 : n ≤ 100
    · by_cases h2 : 0 ≤ line
      · by_cases h3 : line ≤ 1000
        · by_cases h4 : 0 ≤ col
          · by_cases h5 : col ≤ 10000
            · rcases hm.2 with rfl | ⟨b, off, rfl, hlt, hc⟩
              · have h9 := hm.1
                have h8 : n = 0 := h9.symm
                subst h8
                exact empty a cap line col w h2 h3 h4 h5
              · exact main l b off cap n line col w hm.1 h1 hlt hc h2 h3 h4 h5
            · exact e5 a n cap line col w hn h0 h1 h2 h3 h4 (by omega)
          · exact e4 a n cap line col w hn h0 h1 h2 h3 (by omega)
        · exact e3 a n cap line col w hn h0 h1 h2 (by omega)
      · exact e2 a n cap line col w hn h0 h1 (by omega)
    · exact e1 a n cap line col w hn h0 (by omega)
  · exact e0 a n cap line col w hn (by omega)

theorem own : ownKnob Try.prog.godebug = none := by kernel_rfl
theorem laidOut : laidOutB Try.prog = true := by kernel_rfl
set_option maxRecDepth 100000 in
theorem lifted (os : Os) (started : os.Started) (H : Type) (enc : TypeId × Value → H) :
    ReturnsInHanded {} Try.checked os 4 .any (Rows.fnFoundSpec.pre6 enc Try.prog Try.f4 Rows.fnFoundRow.domain false) (Rows.fnFoundSpec.post enc Try.prog Try.f4 false true false false) := by
  refine returnsInHanded_of_change (C := Try.checked) own started (by kernel_rfl) Try.func4
    (ChangeSpec.witness6 (enc := enc) (C := Try.checked) false ⟨#[], #[.slice none 0 0, .int .i64 0, .int .i64 0], []⟩ 8 (by kernel_rfl) (by kernel_rfl) (by kernel_rfl) (by kernel_rfl)) ?_
  intro W base args ds gs before hval0 hW hcnd _
  have hval : ∀ (j : Nat) t v, Try.f4.params[j]? = some t → args[j]? = some v → Value.okWide Try.prog W .any base t v := hval0
  have hW' := hW
  obtain ⟨p, q, hA0, hV, rfl, hfz, hnd⟩ := hW
  have hA : DataW.TrodAll enc Try.prog W 0 (fun _ => true) true Try.f4.params.toList args.toList ds p := hA0
  rw [Try.params4] at hA hval
  obtain ⟨v0, vs0, d0, ds0, p0, q0, hargs, rfl, rfl, h0, r0⟩ := trodAll_cons hA
  obtain ⟨v1, vs1, d1, ds1, p1, q1, rfl, rfl, rfl, h1, r1⟩ := trodAll_cons r0
  obtain ⟨v2, vs2, d2, ds2, p2, q2, rfl, rfl, rfl, h2, r2⟩ := trodAll_cons r1
  obtain ⟨rfl, rfl, rfl⟩ := trodAll_nil r2
  obtain rfl : args = #[v0, v1, v2] := by cases args; simp_all
  obtain ⟨rfl, rfl⟩ := trodVars_none hV
  have k0 := h0
  have lt0 : ∀ x ∈ p0, x.block < W.heap.size := by obtain ⟨m, hm⟩ := k0; exact DataW.trod_lt m _ _ _ hm
  have k1 := h1
  have lt1 : ∀ x ∈ p1, x.block < W.heap.size := by obtain ⟨m, hm⟩ := k1; exact DataW.trod_lt m _ _ _ hm
  have k2 := h2
  have lt2 : ∀ x ∈ p2, x.block < W.heap.size := by obtain ⟨m, hm⟩ := k2; exact DataW.trod_lt m _ _ _ hm
  obtain ⟨a0, len0, cap0, rfl⟩ := okWide_slice Try.underlying27 (hval 0 27 v0 rfl rfl)
  obtain ⟨z0, w0, n0⟩ : ∃ l, Maps W a0 len0 l ∧ len0 ≤ maxLen := by
    obtain ⟨fuel, hf⟩ := h0
    exact maps_open hf
  obtain ⟨a1, rfl, rfl, rfl, w1⟩ := open_int Try.underlying3 (hval 1 3 v1 rfl rfl) h1
  obtain ⟨a2, rfl, rfl, rfl, w2⟩ := open_int Try.underlying3 (hval 2 3 v2 rfl rfl) h2
  clear hA0 hval0
  refine (walk a0 len0 cap0 z0 a1 w1 a2 w2 W w0 n0).mono fun e W' ⟨he, bel⟩ => ?_
  subst he
  exact ⟨_, rfl, _, _, _, [], _, [], hW', trodAll_mk1 (shut_bool Try.underlying4 _), (trodAll_cons_mk (Below.trod laidOut (by kernel_rfl) (of_decide_eq_true (by kernel_rfl)) k0 bel lt0) (trodAll_cons_mk (Below.trod laidOut (by kernel_rfl) (of_decide_eq_true (by kernel_rfl)) k1 bel lt1) (trodAll_cons_mk (Below.trod laidOut (by kernel_rfl) (of_decide_eq_true (by kernel_rfl)) k2 bel lt2) trodAll_mk0))), rfl, bel.frame _, fun h => by cases h⟩

theorem over : Rows.fnFoundRow.holds Try.pinned (OpenSpec.ofChange Rows.fnFoundSpec) :=
  OpenClaim.holds_of_wide 4 Try.f4 rfl rfl rfl rfl rfl rfl rfl ⟨rfl, rfl, rfl, rfl, rfl⟩ rfl rfl rfl rfl rfl (by kernel_rfl) Try.func4 (by kernel_rfl)
    (of_decide_eq_true (by kernel_rfl)) (by unfold Func.isWrapper; first | (rw [if_pos (by decide +kernel)]; kernel_rfl) | (rw [if_neg (by decide +kernel)]; exact ⟨rfl, rfl⟩))
    (fun os started H enc _ => lifted os started H enc)
theorem proved : Rows.FnFoundSaid := over
#print axioms proved

end Go.Proofs.Ytfpfpdjnmfiffaa.fnFound
