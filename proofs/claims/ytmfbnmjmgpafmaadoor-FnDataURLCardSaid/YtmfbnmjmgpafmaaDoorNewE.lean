/- encoding/base64.NewEncoding (21) of the alphabet. -/
import Derived.Test.YtmfbnmjmgpafmaaDoorEncA
import Derived.Test.YtmfbnmjmgpafmaaDoorB64S
import Derived.Lib.BufferWrite
import Derived.Deep.WholeRow
import Derived.StillTailTactics
import Derived.BigQuiet
import Derived.Deep.QuietTactic
namespace Go.Proofs.YtmfbnmjmgpafmaaDoor
open Go.RowKit
set_option linter.unusedVariables false
set_option linter.unusedSimpArgs false
def dvk (k c : Nat) : Nat := if dv c < k then dv c else 255
/-- The Encoding's cells, behind k rounds. -/
noncomputable def encCells (k : Nat) : Array Value := (((List.range 64).map fun d => Value.int .u8 (dg d : Nat)) ++ ((List.range 256).map fun c => Value.int .u8 (dvk k c : Nat)) ++ [Value.int .i32 61, Value.bool false]).toArray
noncomputable def zeroEnc : Array Value := Tryd.zeroCells69.setIfInBounds 320 (Value.int IntKind.i32 61)
noncomputable def firstEnc : Array Value := (zeroEnc.toList.take 0 ++ Lib.byteCells alph.data.toList ++ zeroEnc.toList.drop (0 + alph.size)).toArray
theorem firstEnc_size : firstEnc.size = 322 := by kernel_rfl
theorem zeroEnc_size : zeroEnc.size = 322 := by kernel_rfl
def ffs : ByteArray := ⟨(List.replicate 256 255).toArray⟩
theorem ffs_size : ffs.size = 256 := by kernel_rfl
theorem enc_zero : (firstEnc.toList.take 64 ++ Lib.byteCells ffs.data.toList ++ firstEnc.toList.drop (64 + ffs.size)).toArray = encCells 0 := by kernel_rfl
theorem copy_ffs (w : World) (s : ByteArray) (hs : s = ffs) : (Builtin.copy_ #[29, 9] 3 #[.slice (some ⟨w.heap.size, 64, none⟩) 256 256, .string s]).run Tryd.prog (w.alloc (.cells firstEnc 69)) = .ok (.int .i64 256) (w.alloc (.cells (encCells 0) 69)) := by
  subst hs
  have hg0 : (w.alloc (.cells firstEnc 69)).heap[w.heap.size]? = some (.cells firstEnc 69 (0, 0)) := heap_alloc_new w _
  rw [Lib.run_copy_row_string (P := Tryd.prog) (w.alloc (.cells firstEnc 69)) 29 9 3 5 w.heap.size 64 256 256 ffs firstEnc 69 Tryd.underlying29 (by kernel_rfl) hg0 (by rw [ffs_size]; decide) (by rw [ffs_size, firstEnc_size]; decide), enc_zero, World.setRow_alloc_new, ffs_size]
  rfl
theorem enc_size (k : Nat) : (encCells k).size = 322 := by simp [encCells]
theorem enc_lo (k d : Nat) (h : d < 64) : (encCells k)[d]? = some (.int .u8 (dg d : Nat)) := by
  simp only [encCells, List.getElem?_toArray]
  rw [List.getElem?_append_left (by simp; omega), List.getElem?_append_left (by simpa using h)]
  simp [List.getElem?_range h]
theorem enc_mid (k c : Nat) (h : c < 256) : (encCells k)[64 + c]? = some (.int .u8 (dvk k c : Nat)) := by
  simp only [encCells, List.getElem?_toArray]
  rw [List.getElem?_append_left (by simp; omega), List.getElem?_append_right (by simp)]
  simp [List.getElem?_range h]
theorem enc_hi (k j : Nat) (h : 320 ≤ j) : (encCells k)[j]? = (encCells 0)[j]? := by
  simp only [encCells, List.getElem?_toArray]
  rw [List.getElem?_append_right (by simp; omega), List.getElem?_append_right (by simp; omega)]
  simp
theorem dv_dg (c k : Nat) (h : c < 256) (hk : k < 64) : dv c = k ↔ c = dg k := by
  have : ∀ c : Fin 256, ∀ k : Fin 64, dv c.val = k.val ↔ c.val = dg k.val := by decide +kernel
  exact this ⟨c, h⟩ ⟨k, hk⟩
theorem enc_step (k : Nat) (hk : k < 64) : (encCells k).setIfInBounds (64 + dg k) (.int .u8 (k : Int)) = encCells (k + 1) := by
  apply Array.ext_getElem?
  intro j
  have hd := (dg_facts k hk).2.1
  rw [Array.getElem?_setIfInBounds, enc_size]
  by_cases h1 : j < 64
  · rw [if_neg (by omega), enc_lo k j h1, enc_lo (k + 1) j h1]
  · by_cases h2 : j < 320
    · obtain ⟨c, rfl⟩ : ∃ c, j = 64 + c := ⟨j - 64, by omega⟩
      have hc : c < 256 := by omega
      have h3 := dv_dg c k hc hk
      by_cases h4 : dg k = c
      · rw [if_pos (by omega), if_pos (by omega), enc_mid (k + 1) c hc]
        have : dvk (k + 1) c = k := by unfold dvk; rw [h3.2 h4.symm, if_pos (by omega)]
        rw [this]
      · rw [if_neg (by omega), enc_mid k c hc, enc_mid (k + 1) c hc]
        have : dv c ≠ k := fun h => h4 (h3.1 h).symm
        have : dvk (k + 1) c = dvk k c := by unfold dvk; by_cases h5 : dv c < k <;> simp [h5] <;> omega
        rw [this]
    · rw [if_neg (by omega), enc_hi k j (by omega), enc_hi (k + 1) j (by omega)]
set_option maxRecDepth 1000000 in
set_option maxHeartbeats 8000000 in
theorem newEncoding_any (w : World) :
    Calls Tryd.prog 21 #[.string alph] w fun e w' => e = .returned (.pointer (some ⟨w.heap.size, 0, none⟩)) ∧ EncAt w.heap.size w' ∧ Below w.heap.size w w' := by
  have hsz : alph.size = 64 := by decide +kernel
  have t1 : ((alph.size : Int) != 64) = false := by rw [hsz]; rfl
  go_enter Tryd.func21, Tryd.ntmps21
  go_wp2_with fail
  have hz : Tryd.zeroCells69.setIfInBounds 320 (Value.int IntKind.i32 61) = zeroEnc := rfl
  rw [hz]
  have hg0 : (w.alloc (.cells zeroEnc 69)).heap[w.heap.size]? = some (.cells zeroEnc 69 (0, 0)) := heap_alloc_new w _
  have hr := Lib.run_copy_row_string (P := Tryd.prog) (w.alloc (.cells zeroEnc 69)) 29 9 3 5 w.heap.size 0 64 64 alph zeroEnc 69 Tryd.underlying29 (by kernel_rfl) hg0 (by rw [hsz]; decide) (by rw [hsz, zeroEnc_size]; decide)
  rw [show (zeroEnc.toList.take 0 ++ Lib.byteCells alph.data.toList ++ zeroEnc.toList.drop (0 + alph.size)).toArray = firstEnc from rfl, World.setRow_alloc_new] at hr
  rw [hr]
  clear hr hg0 hz
  go_wp2_with fail
  rw [copy_ffs w _ (by kernel_rfl)]
  go_wp2_with fail
  have hb0 := below_alloc (w := w) (.cells (encCells 0) 69)
  have hg0 : (w.alloc (.cells (encCells 0) 69)).heap[w.heap.size]? = some (.cells (encCells 0) 69 (0, 0)) := heap_alloc_new w _
  generalize w.alloc (.cells (encCells 0) 69) = w0 at hb0 hg0 ⊢
  obtain ⟨B, hB⟩ : ∃ B, w.heap.size = B := ⟨_, rfl⟩
  rw [hB] at hb0 hg0 ⊢
  go_loopw [4] (fun iv W => ∃ k : Nat, iv = .int .i64 (k : Int) ∧ k ≤ 64 ∧ Hid (W.heap[B]? = some (.cells (encCells k) 69 (0, 0))) ∧ Hid (Below B w W)) (fun iv _ => 64 - (intOf iv).toNat)
  case atStart => exact ⟨0, rfl, Nat.zero_le _, Lib.hid hg0, Lib.hid hb0⟩
  case round =>
    clear hg0 hb0
    obtain ⟨k, rfl, hk, HG, HL⟩ := hrel
    rename World => W
    by_cases hlt : k < 64
    · obtain ⟨b, hb⟩ : ∃ b, dg k = b := ⟨_, rfl⟩
      have hka : k < alph.size := by rw [hsz]; exact hlt
      have g0 : (alph[k]'hka).toNat = b := by rw [← hb]; exact at_num hka rfl
      have hf := dg_facts k hlt
      rw [hb] at hf
      have hdv := hf.1
      have hb128 := hf.2.1
      have hb32 := hf.2.2.2.1
      have c1 : W.cell? ⟨B, 64 + b, none⟩ = some (.int .u8 255) := by
        rw [World.cell?, HG.out]
        show (encCells k)[64 + b]? = _
        rw [enc_mid k b (by omega), dvk, if_neg (by omega)]
        rfl
      have f1 : ((b : Int) == 10) = false := by simp; omega
      have f2 : ((b : Int) == 13) = false := by simp; omega
      have HS := Lib.hid (enc_step k hlt)
      rw [hb] at HS
      clear hb hf hdv
      go_wp2_with fail
      have hbi : (0 : Int) ≤ (k : Int) ∧ (k : Int) < (alph.size : Int) := by omega
      go_quiet (fail)
      go_wp2_with fail
      have HG1 : Hid ((W.drewN nq).heap[B]? = some (.cells (encCells k) 69 (0, 0))) := HG
      have HL1 : Hid (Below B w (W.drewN nq)) := Lib.hid (HL.out.trans (Joins.below_draws B W nq))
      generalize W.drewN nq = W1 at HG1 HL1 ⊢
      have hbb : (0 : Int) ≤ (b : Int) ∧ (b : Int) < 256 := by omega
      have e8 : IntKind.u8.wrap (k : Int) = (k : Int) := by rw [IntKind.wrap_u8]; omega
      have gg : ∀ h, (alph[((k : Int)).toNat]'h).toNat = b := by
        intro h
        simp only [Int.toNat_natCast]
        exact g0
      go_still_tail 9, (by kernel_rfl)
      change wpList _ _ _ _ _ W1.drew
      have HG2 : Hid (W1.drew.heap[B]? = some (.cells (encCells k) 69 (0, 0))) := HG1
      have HL2 : Hid (Below B w W1.drew) := Lib.hid (HL1.out.trans (Below.refl B W1).drew)
      generalize W1.drew = W2 at HG2 HL2 ⊢
      have c2 : W2.cell? ⟨B, 64 + b, none⟩ = some (.int .u8 255) := by
        rw [World.cell?, HG2.out]
        rw [World.cell?, HG.out] at c1
        exact c1
      have fz : W2.frozen? ⟨B, 64 + b, none⟩ = false := by rw [World.frozen?, HG2.out]; simp
      go_wp2_with fail
      refine ⟨⟨k + 1, by go_num, by omega, Lib.hid ?_, Lib.hid (HL2.out.setCell (Nat.le_refl B) _)⟩, by simp [intOf]; omega⟩
      rw [← HS.out]
      exact heap_setCell_same W2 B (64 + b) (encCells k) 69 _ HG2.out
    · obtain rfl : k = 64 := by omega
      go_wp2_with fail
      go_ret
      have hc : ∀ j, W.cell? ⟨B, j, none⟩ = (encCells 64)[j]? := fun j => by rw [World.cell?, HG.out]; rfl
      rw [hB]
      refine ⟨rfl, ⟨fun d hd => by rw [hc, enc_lo 64 d hd], fun c h => ?_, by rw [hc, enc_hi 64 320 (by omega)]; kernel_rfl, by rw [hc, enc_hi 64 321 (by omega)]; kernel_rfl, (Array.getElem?_eq_some_iff.1 HG.out).1⟩, HL.out⟩
      rw [hc, enc_mid 64 c h]
      have : dvk 64 c = dv c := by
        unfold dvk
        split
        · rfl
        · have : dv c < 64 ∨ dv c = 255 := by unfold dv; split; omega; split; omega; split; omega; split; omega; split <;> omega
          omega
      rw [this]
end Go.Proofs.YtmfbnmjmgpafmaaDoor
