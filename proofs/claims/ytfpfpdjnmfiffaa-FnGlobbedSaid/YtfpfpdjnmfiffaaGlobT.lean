/- What impl.GlobText tells: the parts' text. -/
import Derived.Test.YtfpfpdjnmfiffaaGlobQ
import Derived.Test.YtfpfpdjnmfiffaaEscape
namespace Go.Proofs.Ytfpfpdjnmfiffaa
open Go.RowKit
set_option linter.unusedVariables false

def textOf (l : List (ByteArray × Int)) : List UInt8 := l.flatMap fun x => x.1.data.toList ++ if x.2 = 1 then [42] else []
theorem textOf_marked : ∀ ps : List ByteArray, textOf (marked ps) = Glob.join (lists ps)
  | [] => rfl
  | [p] => by simp [textOf, marked, lists, Glob.join]
  | p :: q :: r => by
    have ih := textOf_marked (q :: r)
    have e : textOf (marked (p :: q :: r)) = (p.data.toList ++ [42]) ++ textOf (marked (q :: r)) := rfl
    rw [e, ih]
    simp [lists, Glob.join]
theorem textOf_append (a b : List (ByteArray × Int)) : textOf (a ++ b) = textOf a ++ textOf b := by unfold textOf; rw [List.flatMap_append]
theorem textOf_take (l : List (ByteArray × Int)) (k : Nat) (hk : k < l.length) : textOf (l.take (k + 1)) = textOf (l.take k) ++ l[k].1.data.toList ++ if l[k].2 = 1 then [42] else [] := by
  rw [List.take_succ_eq_append_getElem hk, textOf_append, List.append_assoc]
  congr 1
  show (l[k].1.data.toList ++ _) ++ [] = _
  rw [List.append_nil]
theorem textOf_le (l : List (ByteArray × Int)) (k : Nat) : (textOf (l.take k)).length ≤ (textOf l).length := by
  conv => rhs; rw [← List.take_append_drop k l, textOf_append]
  rw [List.length_append]
  omega

theorem boxed {w w1 : World} {B : Nat} {x y : Value} (h : Lib.OthersKept 5 (some B) (w.alloc (.cells #[x, y] 76)) w1) (hB : B < w.heap.size) : w1.cell? ⟨w.heap.size, 1, none⟩ = some y := by
  have h1 := h w.heap.size (.cells #[x, y] 76) (by unfold World.alloc; exact Array.getElem?_push_size) (by simp; omega) (by intro c fz e; injection e; contradiction)
  rw [Lib.cell_of_heap h1]
  rfl

set_option maxRecDepth 100000 in
set_option maxHeartbeats 4000000 in
theorem pattern_any (l : List (ByteArray × Int)) (n : Nat) (hl : l.length = n) (hn : n ≤ 10000) (g cap : Nat) (w : World) (hg : g < w.heap.size) (h : ∀ k (hk : k < l.length), w.cell? ⟨g, k * 2, none⟩ = some (.string l[k].1) ∧ w.cell? ⟨g, k * 2 + 1, none⟩ = some (.int .u8 l[k].2)) (hk01 : ∀ x ∈ l, x.2 = 0 ∨ x.2 = 1) (hz : (textOf l).length ≤ 10000) :
    Calls Try.prog 33 #[.slice (some ⟨g, 0, none⟩) n cap] w fun e w' => e = .returned (.string ⟨(textOf l).toArray⟩) ∧ Below w.heap.size w w' := by
  have HC := Lib.hid h
  have HK := Lib.hid hk01
  have HL := Lib.hid hl
  clear h hk01 hl
  go_enter Try.func33, Try.ntmps33
  go_wp2
  go_loopw [9] (fun i wr => ∃ k : Nat, k ≤ n ∧ i = .int .i64 k ∧ Hid (Bld w.heap.size (textOf (l.take k)) wr) ∧ Below w.heap.size w wr) (fun i _ => n - (intOf i).toNat)
  case atStart => exact ⟨0, Nat.zero_le _, rfl, Bld.fresh w, (Below.refl _ w).alloc (Nat.le_refl _) _⟩
  case round =>
    obtain ⟨k, hk, rfl, HB, hb⟩ := hrel
    by_cases hkn : k < n
    · have hkl : k < l.length := by rw [HL.out]; exact hkn
      obtain ⟨c1, c2⟩ := HC.out k hkl
      have c1 := (hb.cell (p := ⟨g, k * 2, none⟩) hg).trans c1
      have c2 := (hb.cell (p := ⟨g, k * 2 + 1, none⟩) hg).trans c2
      have hz2 := HK.out _ (List.getElem_mem hkl)
      have hst := textOf_take l k hkl
      have ha1 : (textOf (l.take k)).length ≤ 10000 := Nat.le_trans (textOf_le l k) hz
      have ha2 : (textOf (l.take (k + 1))).length ≤ 10000 := Nat.le_trans (textOf_le l (k + 1)) hz
      obtain ⟨p, hp⟩ : ∃ p, p = l[k].1 := ⟨_, rfl⟩
      obtain ⟨z, hzz⟩ : ∃ z, z = l[k].2 := ⟨_, rfl⟩
      rw [← hp] at c1 hst
      rw [← hzz] at c2 hst hz2
      have hpz : p.size ≤ 10000 := by have := congrArg List.length hst; rw [← len_list p]; simp only [List.length_append] at this; omega
      have ha3 : (textOf (l.take k) ++ p.data.toList).length ≤ 20000 := by rw [List.length_append, len_list]; omega
      clear hp hzz
      obtain ⟨A, hA⟩ : ∃ A, textOf (l.take k) ++ p.data.toList = A := ⟨_, rfl⟩
      rw [hA] at hst ha3
      have hwr : w.heap.size < wr.heap.size := Bld.lt HB.out
      have CW := Lib.hid (bld_string p (w := wr.alloc (.cells #[.string p, .int .u8 z] 76)) (show Bld w.heap.size (textOf (l.take k)) _ from Lib.IsBuilderF.alloc HB.out _) (by omega) (by omega))
      rw [hA] at CW
      rcases hz2 with rfl | rfl
      · simp only [show ((0 : Int) = 1) = False by simp, if_false, List.append_nil] at hst
        have HS := Lib.hid hst
        clear hst HB
        go_wp2_with (first | (go_at_call 36; refine CW.out.mono ?_; rintro e w1 ⟨rfl, hB1, hb1, ho1⟩; have c3 := boxed ho1 hwr; have HB1 := Lib.hid hB1; clear hB1 ho1) | fail)
        have hbx := (hb.alloc hb.size _).trans hb1
        clear hb1
        go_roundw
        case rel => exact ⟨k + 1, by omega, by simp, by rw [HS.out]; exact HB1, hbx⟩
        case measure => simp [intOf]; omega
      · simp only [if_true] at hst
        have HS := Lib.hid hst
        clear hst HB
        go_wp2_with (first | (go_at_call 36; refine CW.out.mono ?_; rintro e w1 ⟨rfl, hB1, hb1, ho1⟩; have c3 := boxed ho1 hwr; have HB1 := Lib.hid hB1; clear hB1 ho1) | (go_at_call 38; refine (bld_byte (B := w.heap.size) 42 42 rfl HB1.out (by omega)).mono ?_; rintro e w2 ⟨rfl, hB2, hb2, _⟩; have HB2 := Lib.hid hB2; clear hB2) | fail)
        have hbx := ((hb.alloc hb.size _).trans hb1).trans hb2
        clear hb1 hb2
        go_roundw
        case rel => exact ⟨k + 1, by omega, by simp, by rw [HS.out]; exact HB2, hbx⟩
        case measure => simp [intOf]; omega
    · obtain rfl : k = n := by omega
      have H1 := HB.out
      rw [List.take_of_length_le (by rw [HL.out]; exact Nat.le_refl _)] at H1
      have HB := Lib.hid H1
      clear H1
      go_wp2_with (go_at_call 39; refine (bld_text HB.out).mono ?_; rintro e w5 ⟨rfl, _, hb5, _⟩)
      go_ret
      exact ⟨rfl, hb.trans hb5⟩

set_option maxRecDepth 100000 in
set_option maxHeartbeats 4000000 in
theorem text_any (l : List (ByteArray × Int)) (n : Nat) (hl : l.length = n) (hn : n ≤ 10000) (hn0 : 0 < n) (g cap : Nat) (w : World) (hg : g < w.heap.size) (h : ∀ k (hk : k < l.length), w.cell? ⟨g, k * 2, none⟩ = some (.string l[k].1) ∧ w.cell? ⟨g, k * 2 + 1, none⟩ = some (.int .i64 l[k].2)) (hk01 : ∀ x ∈ l, x.2 = 0 ∨ x.2 = 1) (hz : (textOf l).length ≤ 10000) :
    Calls Try.prog 18 #[.slice (some ⟨g, 0, none⟩) n cap] w fun e w' => e = .returned (.string ⟨(textOf l).toArray⟩) ∧ Below w.heap.size w w' := by
  obtain ⟨i0, hi, hz0, hz1, hz2⟩ := info_parts infoGlob
  have CT := fun g cap w hg h => pattern_any l n hl hn g cap w hg h hk01 hz
  have HC := Lib.hid h
  have HK := Lib.hid hk01
  have HL := Lib.hid hl
  have HT := Lib.hid CT
  clear h hk01 hl CT
  go_enter Try.func18, Try.ntmps18
  go_wp2
  go_loopw [3, 8] (fun v i wr => ∃ (k : Nat), k ≤ n ∧ i = .int .i64 k ∧ Hid (wr.ownsRow w.heap.size 76 2 v k (gcells (l.take k))) ∧ Below w.heap.size w wr) (fun _ i _ => n - (intOf i).toNat)
  case atStart => exact ⟨0, Nat.zero_le _, rfl, World.ownsRow_nil _ _ _ _, Below.refl _ _⟩
  case round =>
    obtain ⟨k, hk, rfl, HV, hb⟩ := hrel
    by_cases hkn : k < n
    · have hkl : k < l.length := by rw [HL.out]; exact hkn
      obtain ⟨c1, c2⟩ := HC.out k hkl
      have c1 := (hb.cell (p := ⟨g, k * 2, none⟩) hg).trans c1
      have c2 := (hb.cell (p := ⟨g, k * 2 + 1, none⟩) hg).trans c2
      have hz9 := HK.out _ (List.getElem_mem hkl)
      obtain ⟨p, hp⟩ : ∃ p, p = l[k].1 := ⟨_, rfl⟩
      obtain ⟨z, hzz⟩ : ∃ z, z = l[k].2 := ⟨_, rfl⟩
      have HS := Lib.hid (show gcells (l.take k) ++ [.string p, .int .u8 z] = gcells (l.take (k + 1)) by rw [gcells_snoc, List.take_succ_eq_append_getElem hkl, hp, hzz])
      rw [← hp] at c1
      rw [← hzz] at c2 hz9
      obtain ⟨hz3, hz4⟩ : 0 ≤ z ∧ z ≤ 1 := by omega
      clear hp hzz hz9
      go_wp2_with (at_builtin; refine wpList_append_own _ rfl _ _ 72 rfl w.heap.size 76 i0 (.agg #[.string ByteArray.empty, .int .u8 0]) 2 24 Try.underlying72 hi hz0 hz1 hz2 rfl (by decide) _ _ _ rfl ((HV.out.alloc _).alloc _) ⟨wr.heap.size + 1, 0, none⟩ 1 1 [.string p, .int .u8 z] rfl rfl (two_at _ _ _ _ _ (by simp)) (by simp [Value.oneCell']) (by unfold maxLen; omega) (by omega) (by have := hb.size; simp; omega) ?_)
      intro v' w2 hown hgrow _
      have HO2 := Lib.hid hown
      have hb2 := ((hb.alloc hb.size _).alloc (by have := hb.size; simp; omega) _).grown hgrow (by have := hb.size; simp; omega) (fun k hk => (HV.out.lt k hk).1)
      clear hown hgrow
      go_wp2
      go_roundw
      case rel =>
        refine ⟨k + 1, by omega, by simp, ?_, hb2⟩
        have h1 := HO2.out
        rw [HS.out] at h1
        exact h1
      case measure => simp [intOf]; omega
    · obtain rfl : k = n := by omega
      have H1 := HV.out
      rw [List.take_of_length_le (by rw [HL.out]; exact Nat.le_refl _)] at H1
      have HH := RetOwn.sl hn0 (B := w.heap.size) (w := w) ⟨_, rfl, H1, hb⟩
      obtain ⟨g3, cap3, he, ho3, hlt3, _⟩ := HH
      injection he with he
      subst he
      have C := HT.out g3 cap3 wr hlt3 (fun k hk => ⟨row_cell ho3 (gcells_at l k hk).1, row_cell ho3 (gcells_at l k hk).2⟩)
      have HB := Lib.hid hb
      clear H1 ho3 HT HV hb
      go_wp2_with (go_at_call 33; refine C.mono ?_; rintro e w5 ⟨rfl, hb5⟩)
      go_ret
      exact ⟨rfl, HB.out.trans (hb5.mono HB.out.size)⟩
end Go.Proofs.Ytfpfpdjnmfiffaa
