/- What spec.Lower tells: the text with each capital letter made small. -/
import Derived.Test.YtfpfpdjnmfiffaaTag
namespace Go.Proofs.Ytfpfpdjnmfiffaa
open Go.RowKit
set_option linter.unusedVariables false

def lowS (s : ByteArray) : ByteArray := ⟨(s.data.toList.map Esc.low).toArray⟩

theorem made_bytes (s : ByteArray) (w : World) : ∃ (W0 : World) (cap : Nat) (C : Array Value), (convert 9 37 (.string s)).run Try.prog w = .ok (.slice (some ⟨w.heap.size, 0, none⟩) s.size cap) W0 ∧ Below w.heap.size w W0 ∧
    W0.heap[w.heap.size]? = some (.cells C 5 (C.size, C.size + 1)) ∧ s.size ≤ C.size ∧ ∀ j (hj : j < s.size), C[j]? = some (.int .u8 ((s[j]'hj).toNat : Int)) := by
  refine ⟨Lib.bytesWorld w 5 s, _, Lib.bytesCells w 5 s, Lib.run_convert_string_bytes w 9 37 5 s Try.underlying9 Try.underlying37 Try.underlying5, ⟨rfl, rfl, rfl, by rw [Lib.bytesWorld_size]; omega, fun k hk => Lib.bytesWorld_at_old w 5 s k hk⟩, Lib.bytesWorld_at_new w 5 s, ?_, fun j hj => ?_⟩
  · simp [Lib.bytesCells]
  · have h1 : j < (s.data.map fun b => Value.int .u8 (b.toNat : Int)).size := by simpa using hj
    unfold Lib.bytesCells
    rw [Array.getElem?_append_left h1, Array.getElem?_map]
    have : s.data[j]? = some (s[j]'hj) := by rw [Array.getElem?_eq_getElem (by simpa using hj)]; rfl
    rw [this]; rfl

theorem cell_at {w : World} {g i : Nat} {C : Array Value} {t : TypeId} {fr : Nat × Nat} {v : Value} (h : w.heap[g]? = some (.cells C t fr)) (hv : C[i]? = some v) : w.cell? ⟨g, i, none⟩ = some v := by rw [Joins.cell_of_block h, hv]
theorem free_at {w : World} {g i F : Nat} {C : Array Value} {t : TypeId} (h : w.heap[g]? = some (.cells C t (F, F + 1))) (hi : i < F) : w.frozen? ⟨g, i, none⟩ = false := by
  simp [World.frozen?, h]; omega

set_option maxHeartbeats 1000000 in
set_option maxRecDepth 20000 in
theorem lower_any (s : ByteArray) (w : World) (hs : s.size ≤ 10000) :
    Calls Try.prog 16 #[.string s] w fun e w' => e = .returned (.string (lowS s)) ∧ Below w.heap.size w w' := by
  obtain ⟨W0, cap, C, hcv, hb0, hblk, hCs, hC⟩ := made_bytes s w
  obtain ⟨F, hF⟩ : ∃ F, F = C.size := ⟨_, rfl⟩
  rw [← hF] at hblk hCs
  have HC := Lib.hid hC
  clear hC hF
  go_enter Try.func16, Try.ntmps16
  go_wp2
  go_loopw [10] (fun i wr => ∃ (k : Nat) (D : Array Value), k ≤ s.size ∧ i = .int .i64 k ∧ wr.heap[w.heap.size]? = some (.cells D 5 (F, F + 1)) ∧ Below w.heap.size w wr ∧ Hid (∀ j (hj : j < s.size), D[j]? = some (.int .u8 (if j < k then ((Esc.low (s[j]'hj)).toNat : Int) else ((s[j]'hj).toNat : Int))))) (fun i _ => s.size - (intOf i).toNat)
  case atStart => exact ⟨0, C, Nat.zero_le _, rfl, hblk, hb0, fun j hj => by rw [HC.out j hj]; simp⟩
  case round =>
    obtain ⟨k, D, hk, rfl, hblk, hb, HD⟩ := hrel
    by_cases hkn : k < s.size
    · have hx0 := HD.out k hkn
      rw [if_neg (Nat.lt_irrefl k)] at hx0
      obtain ⟨x, hx⟩ : ∃ x, (s[k]'hkn).toNat = x := ⟨_, rfl⟩
      rw [hx] at hx0
      have hDk : k < D.size := by
        rcases Nat.lt_or_ge k D.size with h | h
        · exact h
        · rw [Array.getElem?_eq_none h] at hx0; cases hx0
      have hcell : w.heap.size < w.heap.size + 1 := by omega
      have hc := cell_at hblk hx0
      have hf := free_at hblk (i := k) (by omega)
      have hxlt : x < 256 := by rw [← hx]; exact UInt8.toNat_lt _
      have HB := Lib.hid hblk
      have HX := Lib.hid hx
      clear hx0 hblk hx hcell
      by_cases hcap : 65 ≤ x ∧ x ≤ 90
      · obtain ⟨h1, h2⟩ := hcap
        have HL := Lib.hid (low_yes (b := s[k]) (by rw [HX.out]; omega))
        go_wp2
        go_roundw
        case rel =>
          refine ⟨k + 1, _, by omega, by go_num, Joins.block_setCell HB.out _, hb.setCell (p := ⟨w.heap.size, k, none⟩) (Nat.le_refl _) _, fun j hj => ?_⟩
          rw [Array.getElem?_setIfInBounds]
          by_cases hjk : k = j
          · subst hjk
            rw [if_pos rfl, if_pos hDk, if_pos (by omega), HL.out, HX.out]
            rfl
          · rw [if_neg hjk, HD.out j hj]
            by_cases hlt : j < k
            · rw [if_pos hlt, if_pos (by omega)]
            · rw [if_neg hlt, if_neg (by omega)]
        case measure => simp [intOf]; omega
      · have HL := Lib.hid (low_no (b := s[k]) (by rw [HX.out]; exact hcap))
        have rel : ∀ j (hj : j < s.size), D[j]? = some (.int .u8 (if j < k + 1 then ((Esc.low (s[j]'hj)).toNat : Int) else ((s[j]'hj).toNat : Int))) := fun j hj => by
          rw [HD.out j hj]
          by_cases hjk : k = j
          · subst hjk
            rw [if_neg (Nat.lt_irrefl k), if_pos (by omega), HL.out]
          · by_cases hlt : j < k
            · rw [if_pos hlt, if_pos (by omega)]
            · rw [if_neg hlt, if_neg (by omega)]
        have HR := Lib.hid rel
        clear rel
        by_cases h1 : 65 ≤ x
        · have h2 : 90 < x := by omega
          clear hcap
          go_wp2
          go_roundw
          case rel => exact ⟨k + 1, D, by omega, by go_num, HB.out, hb, HR⟩
          case measure => simp [intOf]; omega
        · clear hcap
          go_wp2
          go_roundw
          case rel => exact ⟨k + 1, D, by omega, by go_num, HB.out, hb, HR⟩
          case measure => simp [intOf]; omega
    · have hcv2 := run_convert_bytes_back (P := Try.prog) wr 37 9 5 ⟨w.heap.size, 0, none⟩ cap (s.data.toList.map Esc.low) Try.underlying37 Try.underlying5 Try.underlying9 (fun j hj => by
        have hj' : j < s.size := by simpa using hj
        have e : (⟨w.heap.size, 0, none⟩ : Addr).add j = ⟨w.heap.size, j, none⟩ := by unfold Addr.add; split <;> simp_all
        rw [e, cell_at hblk (HD.out j hj'), if_pos (by omega)]
        congr 3
        rw [List.getElem_map]
        rfl)
      rw [show (s.data.toList.map Esc.low).length = s.size by simp] at hcv2
      go_wp2
      go_ret
      exact ⟨rfl, hb⟩
end Go.Proofs.Ytfpfpdjnmfiffaa
