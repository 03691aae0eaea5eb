/- What impl.Joiner tells: its walk. -/
import Derived.Test.YtfpfpdjnmfiffaaJoinC
namespace Go.Proofs.Ytfpfpdjnmfiffaa
open Go.RowKit
set_option linter.unusedVariables false
set_option linter.unusedSimpArgs false

/-- What the loop keeps. -/
def Kept (B : Nat) (want : List UInt8) (k : Nat) (w : World) : Prop := ∃ S Bs, J B S Bs want.length (lastOf want 0) w ∧ Holds want S Bs ∧ (S = [] → k = 0) ∧ S.length ≤ k ∧ Bs.length ≤ k
theorem J.fresh (w : World) : J w.heap.size [] [] 0 0 (w.alloc (.cells #[.slice none 0 0, .slice none 0 0, .int .u32 0, .int .u8 0] 54)) :=
  ⟨_, _, heap_alloc_new _ _, World.ownsRow_nil _ _ _ _, World.ownsRow_nil _ _ _ _, fun x hx => by simp at hx⟩
theorem Kept.fresh (w : World) : Kept w.heap.size [] 0 (w.alloc (.cells #[.slice none 0 0, .slice none 0 0, .int .u32 0, .int .u8 0] 54)) :=
  ⟨[], [], J.fresh w, ⟨fun x hx => by simp at hx, fun x hx => by simp at hx, fun j hj => by simp at hj⟩, fun _ => rfl, by simp, by simp⟩
theorem kept_string {B : Nat} {want : List UInt8} {k : Nat} {w : World} (s : ByteArray) (h : Kept B want k w) (hs : s.size ≤ 1000) (hw : want.length ≤ 20000) (hk : k ≤ 900) :
    Calls Try.prog 19 #[.pointer (some ⟨B, 0, none⟩), .string s] w fun e w' => e = .returned (.tuple #[]) ∧ Kept B (want ++ s.data.toList) (k + 1) w' ∧ Below B w w' := by
  obtain ⟨S, Bs, hJ, hH, hf, h1, h2⟩ := h
  refine (join_string s hJ hs (by omega) (by omega)).mono ?_
  rintro e w' ⟨rfl, hJ', hb⟩
  refine ⟨rfl, ⟨_, Bs, ?_, hH.addS s, fun h => by simp at h, by simp; omega, by omega⟩, hb⟩
  rw [List.length_append, lastOf_append, show s.data.toList.length = s.size by simp]
  exact hJ'
theorem kept_bytes {B : Nat} {want : List UInt8} {k : Nat} {w : World} (s : ByteArray) (g c : Nat) (h : Kept B want k w) (hg : B < g) (hs : s.size ≤ 1000) (hw : want.length ≤ 20000) (hk : k ≤ 900) (hblk : ByteBlk w g s) (hk0 : 0 < k) :
    Calls Try.prog 20 #[.pointer (some ⟨B, 0, none⟩), .slice (some ⟨g, 0, none⟩) s.size c] w fun e w' => e = .returned (.tuple #[]) ∧ Kept B (want ++ s.data.toList) (k + 1) w' ∧ Below B w w' := by
  obtain ⟨S, Bs, hJ, hH, hf, h1, h2⟩ := h
  refine (join_bytes s g c hJ hg hs (by omega) (by omega) hblk).mono ?_
  rintro e w' ⟨rfl, hJ', hb⟩
  refine ⟨rfl, ⟨S, _, ?_, hH.addB s g c, fun h => by have := hf h; omega, by omega, by simp; omega⟩, hb⟩
  rw [List.length_append, lastOf_append, show s.data.toList.length = s.size by simp]
  exact hJ'

theorem kept_newline {B : Nat} {want : List UInt8} {k : Nat} {w : World} (h : Kept B want k w) (hw : want.length ≤ 20000) (hk : k ≤ 900) :
    Calls Try.prog 21 #[.pointer (some ⟨B, 0, none⟩)] w fun e w' => e = .returned (.tuple #[]) ∧ (∃ k', k' ≤ k + 1 ∧ Kept B (if 0 < want.length ∧ lastOf want 0 ≠ 10 then want ++ [10] else want) k' w') ∧ Below B w w' := by
  obtain ⟨S, Bs, hJ, hH, hf, h1, h2⟩ := h
  refine (newline_any hJ (by omega) (by omega)).mono ?_
  rintro e w' ⟨rfl, hb, hJ'⟩
  refine ⟨rfl, ?_, hb⟩
  by_cases hc : 0 < want.length ∧ lastOf want 0 ≠ 10
  · rw [if_pos hc] at hJ' ⊢
    have h9 := hH.addS (⟨#[10]⟩ : ByteArray)
    refine ⟨k + 1, Nat.le_refl _, _, Bs, ?_, h9, fun h => by simp at h, by simp; omega, by omega⟩
    rw [List.length_append, lastOf_append]
    exact hJ'
  · rw [if_neg hc] at hJ' ⊢
    exact ⟨k, Nat.le_succ _, S, Bs, hJ', hH, hf, h1, h2⟩

theorem kept_done {B : Nat} {want : List UInt8} {k : Nat} {w : World} (h : Kept B want k w) (hB : B ≤ w.heap.size) (hw : want.length ≤ 20000) (hk : k ≤ 1000) :
    Calls Try.prog 22 #[.pointer (some ⟨B, 0, none⟩)] w (fun e w' => e = .returned (.int .u32 (want.length : Int)) ∧ w = w') ∧
    Calls Try.prog 23 #[.pointer (some ⟨B, 0, none⟩)] w (fun e w' => e = .returned (.int .u8 (lastOf want 0)) ∧ w = w') ∧
    Calls Try.prog 24 #[.pointer (some ⟨B, 0, none⟩)] w (fun e w' => ∃ g, e = .returned (.slice (some ⟨g, 0, none⟩) want.length want.length) ∧ w'.heap[g]? = some (.cells (Lib.byteCells want).toArray 5 (0, 0)) ∧ Below w.heap.size w w') := by
  obtain ⟨S, Bs, hJ, hH, hf, h1, h2⟩ := h
  have hD := done_any want hJ hB hw (by omega) (by omega) hH.inS hH.inB hH.cover (fun h => List.eq_nil_of_length_eq_zero (by have := hf h; omega))
  obtain ⟨vs, vb, hJn, _⟩ := hJ
  exact ⟨length_any hJn, lastByte_any hJn, hD⟩

theorem back_conv {w : World} {g : Nat} {l : List UInt8} (h : w.heap[g]? = some (.cells (Lib.byteCells l).toArray 5 (0, 0))) (cap : Nat) : (convert 37 9 (.slice (some ⟨g, 0, none⟩) l.length cap)).run Try.prog w = .ok (.string ⟨l.toArray⟩) w := by
  refine run_convert_bytes_back (P := Try.prog) w 37 9 5 ⟨g, 0, none⟩ cap l Try.underlying37 Try.underlying5 Try.underlying9 (fun j hj => ?_)
  have e : (⟨g, 0, none⟩ : Addr).add j = ⟨g, j, none⟩ := by unfold Addr.add; split <;> simp_all
  rw [e, Lib.cell_of_heap h]
  simp [Lib.byteCells, List.getElem?_eq_getElem hj]
theorem ret_join {a b : List UInt8} (h : a = b) : Ending.returned (.tuple #[.string ⟨a.toArray⟩, .int .i64 (a.length : Int), .int .u8 (lastOf a 0)]) = .returned (.tuple #[.string ⟨b.toArray⟩, .int .i64 (b.length : Int), .int .u8 (lastOf b 0)]) := by rw [h]
theorem lastOf_byte (l : List UInt8) : 0 ≤ lastOf l 0 ∧ lastOf l 0 ≤ 255 := by
  unfold lastOf
  split
  · decide
  · have := UInt8.toNat_lt ‹UInt8›; omega

set_option maxRecDepth 100000 in
set_option maxHeartbeats 4000000 in
theorem joiner_some (b off cap n : Nat) (newline : Bool) (ss : List ByteArray) (w : World) (hl : ss.length = n) (hn : n ≤ 50) (hn0 : 0 < n) (hlt : b < w.heap.size) (hc : ∀ i (h : i < ss.length), w.cell? ⟨b, off + i, none⟩ = some (.string (ss[i]'h))) (hz : ∀ s ∈ ss, s.size ≤ 200) :
    Calls Try.prog 10 #[.slice (some ⟨b, off, none⟩) n cap, .bool newline] w fun e w' => e = .returned (.tuple #[.string ⟨(joined ss newline).toArray⟩, .int .i64 ((joined ss newline).length : Int), .int .u8 (lastOf (joined ss newline) 0)]) ∧ Below w.heap.size w w' := by
  have HC := Lib.hid hc
  have HL := Lib.hid hl
  have HZ := Lib.hid hz
  have HJD := Lib.hid (rfl : joined ss newline = joined ss newline)
  clear hc hl hz HJD
  go_enter Try.func10, Try.ntmps10
  go_wp2
  go_loopw [12] (fun i wr => ∃ k : Nat, k ≤ n ∧ i = .int .i64 k ∧ Hid (Kept w.heap.size (cat (ss.take k)) k wr) ∧ w.heap.size ≤ wr.heap.size ∧ Below w.heap.size w wr) (fun i _ => n - (intOf i).toNat)
  case atStart => exact ⟨0, Nat.zero_le _, rfl, Kept.fresh w, by simp, (Below.refl _ w).alloc (Nat.le_refl _) _⟩
  case round =>
    obtain ⟨k, hk, rfl, HK, hsz, hb⟩ := hrel
    by_cases hkn : k < n
    · have hks : k < ss.length := by rw [HL.out]; exact hkn
      have c1 := (hb.cell (p := ⟨b, off + k, none⟩) hlt).trans (HC.out k hks)
      have hs2 := HZ.out ss[k] (List.getElem_mem _)
      have hct := cat_take ss k hks
      have hlen := cat_len ss HZ.out k (by omega)
      obtain ⟨s, hs⟩ : ∃ s, s = ss[k] := ⟨_, rfl⟩
      rw [← hs] at c1 hs2 hct
      clear hs
      have HT := Lib.hid hct
      clear hct
      rcases Nat.mod_two_eq_zero_or_one k with hp | hp
      · have t1 : ((k : Int) % 2 == 0) = true := by simp; omega
        have C := Lib.hid (kept_string s HK.out (by omega) (by omega) (by omega))
        clear hp
        go_wp2_with (go_at_call 19; refine C.out.mono ?_; rintro e w1 ⟨rfl, hK1, hb1⟩)
        have HK1 := Lib.hid hK1
        clear hK1
        go_roundw
        case rel => exact ⟨k + 1, by omega, by simp, by rw [HT.out]; exact HK1, Nat.le_trans hsz hb1.size, hb.trans hb1⟩
        case measure => simp [intOf]; omega
      · have t1 : ((k : Int) % 2 == 0) = false := by simp; omega
        have hk0 : 0 < k := by omega
        obtain ⟨W0, c, hcv, hb0, hblk⟩ := made_blk s wr
        have hK0 : Kept w.heap.size (cat (ss.take k)) k W0 := by
          obtain ⟨S, Bs, hJ, hH⟩ := HK.out
          exact ⟨S, Bs, hJ.below hb0, hH⟩
        have hBw : w.heap.size < wr.heap.size := by
          obtain ⟨S, Bs, ⟨vs, vb, hJ, _⟩, _⟩ := HK.out
          exact hJ.lt
        have C := Lib.hid (kept_bytes s wr.heap.size c hK0 hBw (by omega) (by omega) (by omega) hblk hk0)
        clear hp hK0 hblk
        go_wp2_with (go_at_call 20; refine C.out.mono ?_; rintro e w1 ⟨rfl, hK1, hb1⟩)
        have HK1 := Lib.hid hK1
        clear hK1
        go_roundw
        case rel => exact ⟨k + 1, by omega, by simp, by rw [HT.out]; exact HK1, Nat.le_trans hsz (Nat.le_trans hb0.size hb1.size), (hb.trans (hb0.mono hsz)).trans hb1⟩
        case measure => simp [intOf]; omega
    · obtain rfl : k = n := by omega
      have hK := HK.out
      rw [List.take_of_length_le (by rw [HL.out]; exact Nat.le_refl _)] at hK
      have hlen := cat_len ss HZ.out k (by rw [HL.out]; exact Nat.le_refl _)
      rw [List.take_of_length_le (by rw [HL.out]; exact Nat.le_refl _)] at hlen
      have HK2 := Lib.hid hK
      clear hK HK
      cases newline with
      | false =>
        have hj : joined ss false = cat ss := by simp [joined]
        have HJ := Lib.hid hj
        clear hj
        obtain ⟨L, hL⟩ : ∃ L, L = cat ss := ⟨_, rfl⟩
        rw [← hL] at HK2 hlen HJ
        clear hL
        obtain ⟨C22, C23, C24⟩ := kept_done HK2.out hsz (by omega) (by omega)
        have H24 := Lib.hid C24
        clear C24
        go_wp2_with (first | (go_at_call 22; refine C22.mono ?_; rintro e w2 ⟨rfl, rfl⟩) | (go_at_call 23; refine C23.mono ?_; rintro e w2 ⟨rfl, rfl⟩) | (go_at_call 24; refine H24.out.mono ?_; rintro e w3 ⟨g, rfl, hg, hb3⟩; have hcv := back_conv hg L.length; have HG := Lib.hid hg; clear hg))
        go_ret3
        exact ⟨ret_join HJ.out.symm, hb.trans (hb3.mono hsz)⟩
      | true =>
        have hj : joined ss true = if 0 < (cat ss).length ∧ lastOf (cat ss) 0 ≠ 10 then cat ss ++ [10] else cat ss := by simp [joined]
        have hjl : (joined ss true).length ≤ 200 * k + 1 := by rw [hj]; split <;> first | omega | (rw [List.length_append]; show _ + 1 ≤ _; omega)
        have C21 := kept_newline HK2.out (by omega) (by omega)
        rw [← hj] at C21
        have H21 := Lib.hid C21
        clear hj C21
        obtain ⟨L, hL⟩ : ∃ L, L = joined ss true := ⟨_, rfl⟩
        rw [← hL] at H21 hjl
        have HJ := Lib.hid hL
        clear hL
        go_wp2_with (first | (go_at_call 21; refine H21.out.mono ?_; rintro e w1 ⟨rfl, ⟨k', hk', hK'⟩, hb1⟩; obtain ⟨C22, C23, C24⟩ := kept_done hK' (Nat.le_trans hsz hb1.size) (by omega) (by omega); have H24 := Lib.hid C24; clear C24 hK') | (go_at_call 22; refine C22.mono ?_; rintro e w2 ⟨rfl, rfl⟩) | (go_at_call 23; refine C23.mono ?_; rintro e w2 ⟨rfl, rfl⟩) | (go_at_call 24; refine H24.out.mono ?_; rintro e w3 ⟨g, rfl, hg, hb3⟩; have hcv := back_conv hg L.length; have HG := Lib.hid hg; clear hg))
        go_ret3
        exact ⟨ret_join HJ.out, (hb.trans hb1).trans (hb3.mono (Nat.le_trans hsz hb1.size))⟩

set_option maxRecDepth 100000 in
set_option maxHeartbeats 2000000 in
theorem joiner_nil (a : Option Addr) (cap : Nat) (newline : Bool) (w : World) :
    Calls Try.prog 10 #[.slice a 0 cap, .bool newline] w fun e w' => e = .returned (.tuple #[.string ⟨#[]⟩, .int .i64 0, .int .u8 0]) ∧ Below w.heap.size w w' := by
  have HK2 := Lib.hid (Kept.fresh w)
  obtain ⟨W, hW⟩ : ∃ W, W = w.alloc (.cells #[.slice none 0 0, .slice none 0 0, .int .u32 0, .int .u8 0] 54) := ⟨_, rfl⟩
  have hb : Below w.heap.size w W := by rw [hW]; exact (Below.refl _ w).alloc (Nat.le_refl _) _
  rw [← hW] at HK2
  have hsz : w.heap.size ≤ W.heap.size := hb.size
  cases newline with
  | false =>
    obtain ⟨C22, C23, C24⟩ := kept_done HK2.out hsz (by simp) (by omega)
    have H24 := Lib.hid C24
    have H22 : Hid (Calls Try.prog 22 #[.pointer (some ⟨w.heap.size, 0, none⟩)] W (fun e w' => e = .returned (.int .u32 0) ∧ W = w')) := C22
    have H23 : Hid (Calls Try.prog 23 #[.pointer (some ⟨w.heap.size, 0, none⟩)] W (fun e w' => e = .returned (.int .u8 0) ∧ W = w')) := C23
    clear C24 C22 C23
    go_enter Try.func10, Try.ntmps10
    go_wp2
    refine wp_loop_rounds 1 ?_
    rw [rounds_succ, ← hW]
    clear hW
    go_wp2_with (first | (go_at_call 22; refine H22.out.mono ?_; rintro e w2 ⟨rfl, rfl⟩) | (go_at_call 23; refine H23.out.mono ?_; rintro e w2 ⟨rfl, rfl⟩) | (go_at_call 24; refine H24.out.mono ?_; rintro e w3 ⟨g, rfl, hg, hb3⟩; have hcv : (convert 37 9 (.slice (some ⟨g, 0, none⟩) 0 0)).run Try.prog w3 = .ok (.string ⟨#[]⟩) w3 := back_conv hg 0; have HG := Lib.hid hg; clear hg))
    go_ret3
    exact ⟨rfl, hb.trans (hb3.mono hsz)⟩
  | true =>
    have C21 := kept_newline HK2.out (by simp) (by omega)
    rw [if_neg (by simp)] at C21
    have H21 := Lib.hid C21
    clear C21
    go_enter Try.func10, Try.ntmps10
    go_wp2
    refine wp_loop_rounds 1 ?_
    rw [rounds_succ, ← hW]
    clear hW
    go_wp2_with (first | (go_at_call 21; refine H21.out.mono ?_; rintro e w1 ⟨rfl, ⟨k', hk', hK'⟩, hb1⟩; obtain ⟨C22, C23, C24⟩ := kept_done hK' (Nat.le_trans hsz hb1.size) (by simp) (by omega); have H24 := Lib.hid C24; have H22 : Hid (Calls Try.prog 22 #[.pointer (some ⟨w.heap.size, 0, none⟩)] w1 (fun e w' => e = .returned (.int .u32 0) ∧ w1 = w')) := C22; have H23 : Hid (Calls Try.prog 23 #[.pointer (some ⟨w.heap.size, 0, none⟩)] w1 (fun e w' => e = .returned (.int .u8 0) ∧ w1 = w')) := C23; clear C24 C22 C23 hK') | (go_at_call 22; refine H22.out.mono ?_; rintro e w2 ⟨rfl, rfl⟩) | (go_at_call 23; refine H23.out.mono ?_; rintro e w2 ⟨rfl, rfl⟩) | (go_at_call 24; refine H24.out.mono ?_; rintro e w3 ⟨g, rfl, hg, hb3⟩; have hcv : (convert 37 9 (.slice (some ⟨g, 0, none⟩) 0 0)).run Try.prog w3 = .ok (.string ⟨#[]⟩) w3 := back_conv hg 0; have HG := Lib.hid hg; clear hg))
    go_ret3
    exact ⟨rfl, (hb.trans hb1).trans (hb3.mono (Nat.le_trans hsz hb1.size))⟩
/-- The law's own try. -/
theorem probe_join (W : World) : Calls Try.prog 10 #[.slice (some ⟨W.heap.size, 0, none⟩) 1 1, .bool false] (W.alloc (.cells #[.string ⟨#[97]⟩] 9)) fun e w' => e = .returned (.tuple #[.string ⟨#[97]⟩, .int .i64 1, .int .u8 97]) ∧ Below W.heap.size W w' := by
  have hb := (Below.refl _ W).alloc (Nat.le_refl _) (.cells #[.string ⟨#[97]⟩] 9)
  refine (joiner_some W.heap.size 0 1 1 false [⟨#[97]⟩] _ rfl (by decide) (by decide) (by simp) ?_ ?_).mono ?_
  · intro i hi
    obtain rfl : i = 0 := by simp at hi; omega
    rw [Lib.cell_of_heap (heap_alloc_new W _)]
    rfl
  · intro s hs
    simp at hs
    subst hs
    decide
  · rintro e w' ⟨rfl, hb'⟩
    exact ⟨rfl, hb.trans (hb'.mono hb.size)⟩
end Go.Proofs.Ytfpfpdjnmfiffaa
