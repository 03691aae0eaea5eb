/- What impl.Found tells of mappings in their order. -/
import Derived.Test.YtfpfpdjnmfiffaaFoundF
import Derived.Laws.AppendOwn
import Derived.Deep.Onto
import Derived.StillTailTactics
namespace Go.Proofs.Ytfpfpdjnmfiffaa
open Go.RowKit
set_option linter.unusedVariables false
set_option linter.unusedSimpArgs false

theorem infoMap : (Try.prog.info? 67).map (fun i => (i.zero, i.size, i.bytes)) = some (some (.agg #[.int .i32 0, .int .i32 0, .int .i32 0, .int .i32 0, .int .i32 0, .int .u32 0]), 6, 24) := by kernel_rfl
def flat (l : List Mp) : List Value := l.flatMap Mp.scells
theorem flat_snoc (l : List Mp) (k : Nat) (hk : k < l.length) : flat (l.take k) ++ (l[k]).scells = flat (l.take (k + 1)) := by
  rw [List.take_succ_eq_append_getElem hk]
  unfold flat
  rw [List.flatMap_append]
  simp
theorem flat_at : ∀ (l : List Mp) (i : Nat) (hi : i < l.length) (j : Nat) (u : Value), (l[i]).scells[j]? = some u → (flat l)[i * 6 + j]? = some u
  | x :: r, 0, _, j, u, h => by
    have e : flat (x :: r) = x.scells ++ flat r := rfl
    have hj := (List.getElem?_eq_some_iff.1 h).1
    rw [e, List.getElem?_append_left (by simp; exact hj)]
    simpa using h
  | x :: r, i + 1, hi, j, u, h => by
    have e : flat (x :: r) = x.scells ++ flat r := rfl
    have ih := flat_at r i (by simpa using hi) j u h
    rw [e, List.getElem?_append_right (by simp [Mp.scells]; omega), ← ih]
    congr 1
    simp [Mp.scells]
    omega
theorem block_at (w : World) (B : Nat) (cs : List Value) (t : TypeId) (h : w.heap.size = B) : ∀ j u, cs[j]? = some u → (w.alloc (.cells cs.toArray t)).cell? ((⟨B, 0, none⟩ : Addr).add j) = some u := by
  subst h
  intro j u hj
  have e : (⟨w.heap.size, 0, none⟩ : Addr).add j = ⟨w.heap.size, j, none⟩ := by unfold Addr.add; split <;> simp_all
  rw [e, Lib.cell_of_heap (heap_alloc_new w _)]
  simpa using hj
theorem own_form {w : World} {B E sz n : Nat} {v : Value} {cs : List Value} (hn : 0 < n) (h : w.ownsRow B E sz v n cs) : ∃ g cap, v = .slice (some ⟨g, 0, none⟩) n cap ∧ g < w.heap.size := by
  rcases h.2 with ⟨_, h0⟩ | ⟨g, cap, cur, rfl, hg, hc, _⟩
  · omega
  · exact ⟨g, cap, rfl, (Array.getElem?_eq_some_iff.1 hc).1⟩
theorem obj_old {w : World} {B : Nat} {o o' : Obj} (h : w.heap[B]? = some o) : (w.alloc o').heap[B]? = some o := by
  have hl := (Array.getElem?_eq_some_iff.1 h).1
  show (w.heap.push o')[B]? = _
  rw [Array.getElem?_push, if_neg (Nat.ne_of_lt hl)]
  exact h
theorem map_grown {w w' : World} {B base k : Nat} {o : Obj} {v : Value} {cs : List Value} (hB : w.heap[B]? = some o) (hv : ∀ k, v.ownBlock = some k → B < k) (hg : w.grownBy w' v.ownBlock) : w'.heap[B]? = some o := by
  rw [hg.block B (Array.getElem?_eq_some_iff.1 hB).1 (fun e => by first | (have := hv B e; omega) | (have := hv B e.symm; omega))]
  exact hB
theorem map_set {w : World} {B : Nat} {a b c d v' : Value} {t : TypeId} (hB : w.heap[B]? = some (.cells #[a, b, c, d] t)) : (w.setCell ⟨B, 2, none⟩ v').heap[B]? = some (.cells #[a, b, v', d] t) := by
  simp [World.setCell, Array.getElem?_modify, hB]
theorem map_frozen {w : World} {B j : Nat} {cs : Array Value} {t : TypeId} (hB : w.heap[B]? = some (.cells cs t)) : w.frozen? ⟨B, j, none⟩ = false := by
  simp [World.frozen?, hB]
/-- What Found gives back. -/
def gotten (l : List Mp) (o : Option Nat) (w' : World) (v : Value) : Prop :=
  match o with
  | none => v = .slice none 0 0
  | some i => ∃ (hi : i < l.length) (g : Nat), v = .slice (some ⟨g, 0, none⟩) 1 1 ∧ w'.heap[g]? = some (.cells ((l[i]).icells.toArray) 29)

set_option maxRecDepth 100000 in
set_option maxHeartbeats 4000000 in
theorem found_some (l : List Mp) (line col : Int) (o : Option Nat) (b off cap n : Nat) (w : World) (hl : l.length = n) (hn : n ≤ 1000) (hn0 : 0 < n) (hlt : b < w.heap.size)
    (hr : Rising l l.length) (hf : AllFine l l.length) (ho : Last l line col l.length o) (hL : 0 ≤ line ∧ line ≤ 1000) (hC : 0 ≤ col ∧ col ≤ 10000) (h : Cells6 w b off l Mp.icells) :
    Calls Try.prog 11 #[.slice (some ⟨b, off, none⟩) n cap, .int .i64 line, .int .i64 col] w fun e w' => ∃ v, e = .returned v ∧ gotten l o w' v ∧ Below w.heap.size w w' := by
  obtain ⟨i0, hi, hz0, hz1, hz2⟩ := info_parts infoMap
  have HR := Lib.hid hr
  have HF := Lib.hid hf
  have HO := Lib.hid ho
  have HC := Lib.hid h
  have HL := Lib.hid hl
  clear hr hf ho h hl
  go_enter Try.func11, Try.ntmps11
  go_wp2
  go_loopw [15] (fun i wr => ∃ (k : Nat) (v : Value), k ≤ n ∧ i = .int .i64 k ∧ Hid (wr.heap[w.heap.size]? = some (.cells #[.slice none 0 0, .slice none 0 0, v, .slice none 0 0] 63)) ∧ Hid (wr.ownsRow (w.heap.size + 1) 67 6 v k (flat (l.take k))) ∧ Below w.heap.size w wr) (fun i _ => n - (intOf i).toNat)
  case atStart => exact ⟨0, _, Nat.zero_le _, rfl, heap_alloc_new _ _, World.ownsRow_nil _ _ _ _, (Below.refl _ w).alloc (Nat.le_refl _) _⟩
  case round =>
    obtain ⟨k, v, hk, rfl, HB, HV, hb⟩ := hrel
    have hBlt : w.heap.size < wr.heap.size := (Array.getElem?_eq_some_iff.1 HB.out).1
    have cB : wr.cell? ⟨w.heap.size, 2, none⟩ = some v := by rw [Lib.cell_of_heap HB.out]; rfl
    by_cases hkn : k < n
    · have hkl : k < l.length := by rw [HL.out]; exact hkn
      have hc := fun j u => (HC.out.keep hlt hb) k hkl j u
      have hfm := HF.out k hkl hkl
      have hsn := flat_snoc l k hkl
      obtain ⟨q, hq⟩ : ∃ q, q = l[k] := ⟨_, rfl⟩
      rw [← hq] at hc hfm hsn
      clear hq
      obtain ⟨x0, x1, x2, x3, x4, x5⟩ := q
      have c0 : wr.cell? ⟨b, off + k * 6, none⟩ = some (.int .i64 x0) := by have h := hc 0 _ rfl; simpa using h
      have c1 : wr.cell? ⟨b, off + k * 6 + 1, none⟩ = some (.int .i64 x1) := by have h := hc 1 _ rfl; simpa using h
      have c2 : wr.cell? ⟨b, off + k * 6 + 2, none⟩ = some (.int .i64 x2) := by have h := hc 2 _ rfl; simpa using h
      have c3 : wr.cell? ⟨b, off + k * 6 + 3, none⟩ = some (.int .i64 x3) := by have h := hc 3 _ rfl; simpa using h
      have c4 : wr.cell? ⟨b, off + k * 6 + 4, none⟩ = some (.int .i64 x4) := by have h := hc 4 _ rfl; simpa using h
      have c5 : wr.cell? ⟨b, off + k * 6 + 5, none⟩ = some (.int .i64 x5) := by have h := hc 5 _ rfl; simpa using h
      have y0 : 0 ≤ x0 ∧ x0 ≤ 1000 := ⟨hfm.l0, hfm.h0⟩
      have y1 : 0 ≤ x1 ∧ x1 ≤ 10000 := ⟨hfm.l1, hfm.h1⟩
      have y2 : 0 ≤ x2 ∧ x2 ≤ 1000 := ⟨hfm.l2, hfm.h2⟩
      have y3 : 0 ≤ x3 ∧ x3 ≤ 1000 := ⟨hfm.l3, hfm.h3⟩
      have y4 : 0 ≤ x4 ∧ x4 ≤ 10000 := ⟨hfm.l4, hfm.h4⟩
      have y5 : -1 ≤ x5 ∧ x5 ≤ 1000 := ⟨hfm.l5, hfm.h5⟩
      clear hc hfm
      by_cases h5 : 0 ≤ x5
      · have t1 : decide (0 ≤ x5) = true := by simpa using h5
        rw [show (Mp.mk x0 x1 x2 x3 x4 x5).scells = [.int .i32 x0, .int .i32 x1, .int .i32 x2, .int .i32 x3, .int .i32 x4, .int .u32 (4294967295 - x5)] by simp [Mp.scells, Mp.name, h5]] at hsn
        have HS := Lib.hid hsn
        clear hsn
        have C25 := fun w => index_any x5 ⟨h5, y5.2⟩ w
        have hold : ∀ A B C, (((wr.alloc A).alloc B).alloc C).cell? ⟨w.heap.size, 2, none⟩ = some v := fun A B C => (((((Below.refl _ wr).alloc (Nat.le_refl _) A).alloc (by simp) B).alloc (by simp; omega) C).cell (p := ⟨w.heap.size, 2, none⟩) hBlt).trans cB
        go_wp2_with (first | (go_at_call 25; refine (C25 _).mono ?_; rintro e w1 ⟨rfl, rfl⟩) | (at_builtin; refine wpList_append_own _ rfl _ _ 61 rfl (w.heap.size + 1) 67 i0 (.agg #[.int .i32 0, .int .i32 0, .int .i32 0, .int .i32 0, .int .i32 0, .int .u32 0]) 6 24 Try.underlying61 hi hz0 hz1 hz2 rfl (by decide) _ _ _ rfl ((((HV.out.alloc _).alloc _).alloc _).alloc _) ⟨wr.heap.size + 3, 0, none⟩ 1 1 [.int .i32 x0, .int .i32 x1, .int .i32 x2, .int .i32 x3, .int .i32 x4, .int .u32 (4294967295 - x5)] rfl rfl (block_at _ _ _ _ (by simp)) (by simp [Value.oneCell']) (by unfold maxLen; omega) (by omega) (by simp; omega) ?_))
        intro v' w2 hown hgrow _
        obtain ⟨g', cap', rfl, _⟩ := own_form (Nat.succ_pos k) hown
        have HO2 := Lib.hid hown
        have hB2 := map_grown (w := _) (B := w.heap.size) (base := 0) (k := 0) (cs := []) (obj_old (obj_old (obj_old (obj_old HB.out)))) (fun k hk => (HV.out.lt k hk).1) hgrow
        have hb2 := ((((hb.alloc hb.size _).alloc (by simp; omega) _).alloc (by simp; omega) _).alloc (by simp; omega) _).grown hgrow (by simp; omega) (fun k hk => Nat.le_trans (Nat.le_succ _) (HV.out.lt k hk).1)
        have HB3 := Lib.hid (map_set (v' := .slice (some ⟨g', 0, none⟩) (k + 1) cap') hB2)
        have f2 := map_frozen (j := 2) hB2
        have c2' : w2.cell? ⟨w.heap.size, 2, none⟩ = some v := by rw [Lib.cell_of_heap hB2]; rfl
        have HV3 := Lib.hid (ownsRow_setCell_below HO2.out (a := ⟨w.heap.size, 2, none⟩) (Nat.lt_succ_self _) (.slice (some ⟨g', 0, none⟩) (k + 1) cap'))
        have hb3 := hb2.setCell (p := ⟨w.heap.size, 2, none⟩) (Nat.le_refl _) (.slice (some ⟨g', 0, none⟩) (k + 1) cap')
        clear hown hgrow hB2 HO2 hb2
        go_wp2
        go_roundw
        case rel => exact ⟨k + 1, _, by omega, by simp, HB3, by have h := HV3.out; rw [← HS.out]; exact h, hb3⟩
        case measure => simp [intOf]; omega
      · have t1 : decide (0 ≤ x5) = false := by simpa using h5
        rw [show (Mp.mk x0 x1 x2 x3 x4 x5).scells = [.int .i32 x0, .int .i32 x1, .int .i32 x2, .int .i32 x3, .int .i32 x4, .int .u32 0] by simp [Mp.scells, Mp.name, h5]] at hsn
        have HS := Lib.hid hsn
        clear hsn
        have hold : ∀ A B, ((wr.alloc A).alloc B).cell? ⟨w.heap.size, 2, none⟩ = some v := fun A B => ((((Below.refl _ wr).alloc (Nat.le_refl _) A).alloc (by simp) B).cell (p := ⟨w.heap.size, 2, none⟩) hBlt).trans cB
        go_wp2_with (first | (at_builtin; refine wpList_append_own _ rfl _ _ 61 rfl (w.heap.size + 1) 67 i0 (.agg #[.int .i32 0, .int .i32 0, .int .i32 0, .int .i32 0, .int .i32 0, .int .u32 0]) 6 24 Try.underlying61 hi hz0 hz1 hz2 rfl (by decide) _ _ _ rfl (((HV.out.alloc _).alloc _).alloc _) ⟨wr.heap.size + 2, 0, none⟩ 1 1 [.int .i32 x0, .int .i32 x1, .int .i32 x2, .int .i32 x3, .int .i32 x4, .int .u32 0] rfl rfl (block_at _ _ _ _ (by simp)) (by simp [Value.oneCell']) (by unfold maxLen; omega) (by omega) (by simp; omega) ?_))
        intro v' w2 hown hgrow _
        obtain ⟨g', cap', rfl, _⟩ := own_form (Nat.succ_pos k) hown
        have HO2 := Lib.hid hown
        have hB2 := map_grown (w := _) (B := w.heap.size) (base := 0) (k := 0) (cs := []) (obj_old (obj_old (obj_old HB.out))) (fun k hk => (HV.out.lt k hk).1) hgrow
        have hb2 := (((hb.alloc hb.size _).alloc (by simp; omega) _).alloc (by simp; omega) _).grown hgrow (by simp; omega) (fun k hk => Nat.le_trans (Nat.le_succ _) (HV.out.lt k hk).1)
        have HB3 := Lib.hid (map_set (v' := .slice (some ⟨g', 0, none⟩) (k + 1) cap') hB2)
        have f2 := map_frozen (j := 2) hB2
        have c2' : w2.cell? ⟨w.heap.size, 2, none⟩ = some v := by rw [Lib.cell_of_heap hB2]; rfl
        have HV3 := Lib.hid (ownsRow_setCell_below HO2.out (a := ⟨w.heap.size, 2, none⟩) (Nat.lt_succ_self _) (.slice (some ⟨g', 0, none⟩) (k + 1) cap'))
        have hb3 := hb2.setCell (p := ⟨w.heap.size, 2, none⟩) (Nat.le_refl _) (.slice (some ⟨g', 0, none⟩) (k + 1) cap')
        clear hown hgrow hB2 HO2 hb2
        go_wp2
        go_roundw
        case rel => exact ⟨k + 1, _, by omega, by simp, HB3, by have h := HV3.out; rw [← HS.out]; exact h, hb3⟩
        case measure => simp [intOf]; omega
    · obtain rfl : k = n := by omega
      have H1 := HV.out
      rw [List.take_of_length_le (by rw [HL.out]; exact Nat.le_refl _)] at H1
      obtain ⟨g, cap2, rfl, hg⟩ := own_form hn0 H1
      have hcs : Cells6 wr g 0 l Mp.scells := fun i hi j u hu => by
        have h2 := World.ownsRow.cells H1 (g := g) rfl _ u (flat_at l i hi j u hu)
        have e : (⟨g, 0, none⟩ : Addr).add (i * 6 + j) = ⟨g, 0 + i * 6 + j, none⟩ := by unfold Addr.add; split <;> simp_all
        rwa [e] at h2
      have HCS := Lib.hid hcs
      clear H1 HV cB hcs
      cases o with
      | none =>
        have C26 : Calls Try.prog 26 #[.pointer (some ⟨w.heap.size, 0, none⟩), .int .i32 line, .int .i32 col] wr fun e w' => e = .returned (.pointer none) ∧ Below wr.heap.size wr w' := find_some l line col (none) w.heap.size g cap2 k _ _ _ wr HL.out hn HB.out hg HR.out HF.out HO.out hL hC HCS.out
        clear HB
        go_wp2_with (first | (go_at_call 26; refine C26.mono ?_; rintro e w1 ⟨rfl, hb1⟩) | fail)
        go_ret
        exact ⟨_, rfl, rfl, hb.trans (hb1.mono hb.size)⟩
      | some i =>
        obtain ⟨hik, hil, hit⟩ := HO.out
        have C26 : Calls Try.prog 26 #[.pointer (some ⟨w.heap.size, 0, none⟩), .int .i32 line, .int .i32 col] wr fun e w' => e = .returned (.pointer (some ⟨g, i * 6, none⟩)) ∧ Below wr.heap.size wr w' := find_some l line col (some i) w.heap.size g cap2 k _ _ _ wr HL.out hn HB.out hg HR.out HF.out HO.out hL hC HCS.out
        clear HB
        have hfm := HF.out i hil hil
        obtain ⟨q, hq⟩ : ∃ q, q = l[i] := ⟨_, rfl⟩
        have HCI : ∀ W, Below wr.heap.size wr W → ∀ (j : Nat) (u : Value), q.scells[j]? = some u → W.cell? ⟨g, 0 + i * 6 + j, none⟩ = some u := fun W hW j u hu => (HCS.out.keep hg hW) i hil j u (by rw [← hq]; exact hu)
        rw [← hq] at hfm
        have HQ := Lib.hid hq
        clear hq hit
        obtain ⟨x0, x1, x2, x3, x4, x5⟩ := q
        have y0 : 0 ≤ x0 ∧ x0 ≤ 1000 := ⟨hfm.l0, hfm.h0⟩
        have y1 : 0 ≤ x1 ∧ x1 ≤ 10000 := ⟨hfm.l1, hfm.h1⟩
        have y2 : 0 ≤ x2 ∧ x2 ≤ 1000 := ⟨hfm.l2, hfm.h2⟩
        have y3 : 0 ≤ x3 ∧ x3 ≤ 1000 := ⟨hfm.l3, hfm.h3⟩
        have y4 : 0 ≤ x4 ∧ x4 ≤ 10000 := ⟨hfm.l4, hfm.h4⟩
        have y5 : -1 ≤ x5 ∧ x5 ≤ 1000 := ⟨hfm.l5, hfm.h5⟩
        clear hfm
        have HX := Lib.hid HCI
        clear HCI
        by_cases h5 : 0 ≤ x5
        · have hnm : (Mp.mk x0 x1 x2 x3 x4 x5).name = 4294967295 - x5 := by simp [Mp.name, h5]
          have HN := Lib.hid hnm
          clear hnm
          have C27 := fun W => valid_any (4294967295 - x5) true (by simp; omega) W
          have C28 := fun W => get_any x5 ⟨h5, y5.2⟩ W
          go_wp2_with (first | (go_at_call 26; refine C26.mono ?_; rintro e w1 ⟨rfl, hb1⟩; have c5 : w1.cell? ⟨g, i * 6 + 5, none⟩ = some (.int .u32 (4294967295 - x5)) := (by have h := HX.out w1 hb1 5 _ rfl; rw [HN.out] at h; simpa using h)) | (go_at_call 27; refine (C27 _).mono ?_; rintro e w2 ⟨rfl, rfl⟩; have c5' : (w1.alloc (.cells #[.int .u32 (4294967295 - x5)] 65)).cell? ⟨g, i * 6 + 5, none⟩ = some (.int .u32 (4294967295 - x5)) := (by have h := HX.out (w1.alloc (.cells #[.int .u32 (4294967295 - x5)] 65)) (hb1.alloc hb1.size (.cells #[.int .u32 (4294967295 - x5)] 65)) 5 _ rfl; rw [HN.out] at h; simpa using h)) | (go_at_call 28; refine (C28 _).mono ?_; rintro e w3 ⟨rfl, rfl⟩) | fail)
          have hbW := (hb1.alloc hb1.size (.cells #[.int .u32 (4294967295 - x5)] 65)).alloc (by have := hb1.size; simp; omega) (.cells #[.int .u32 (4294967295 - x5)] 65)
          generalize hW0 : (w1.alloc (.cells #[.int .u32 (4294967295 - x5)] 65)).alloc (.cells #[.int .u32 (4294967295 - x5)] 65) = W at hbW ⊢
          clear hW0
          have d0 : W.cell? ⟨g, i * 6, none⟩ = some (.int .i32 x0) := by have h := HX.out W hbW 0 _ rfl; simpa using h
          have d1 : W.cell? ⟨g, i * 6 + 1, none⟩ = some (.int .i32 x1) := by have h := HX.out W hbW 1 _ rfl; simpa using h
          have d2 : W.cell? ⟨g, i * 6 + 2, none⟩ = some (.int .i32 x2) := by have h := HX.out W hbW 2 _ rfl; simpa using h
          have d3 : W.cell? ⟨g, i * 6 + 3, none⟩ = some (.int .i32 x3) := by have h := HX.out W hbW 3 _ rfl; simpa using h
          have d4 : W.cell? ⟨g, i * 6 + 4, none⟩ = some (.int .i32 x4) := by have h := HX.out W hbW 4 _ rfl; simpa using h
          go_still_tail 27, (by kernel_rfl)
          change wpList _ _ _ _ _ W.drew
          have hd : Below wr.heap.size wr W.drew := hbW.trans ⟨rfl, rfl, rfl, Nat.le_refl _, fun _ _ => rfl⟩
          generalize W.drew = W2 at hd ⊢
          go_wp2
          go_ret
          refine ⟨_, rfl, ⟨hil, _, rfl, ?_⟩, (hb.trans (hd.mono hb.size)).alloc (Nat.le_trans hb.size hd.size) _⟩
          rw [← HQ.out]
          exact heap_alloc_new _ _
        · obtain rfl : x5 = -1 := by omega
          have HN : Hid ((Mp.mk x0 x1 x2 x3 x4 (-1)).name = 0) := by unfold Hid; simp [Mp.name]
          have C27 := fun W => valid_any 0 false rfl W
          go_wp2_with (first | (go_at_call 26; refine C26.mono ?_; rintro e w1 ⟨rfl, hb1⟩; have c5 : w1.cell? ⟨g, i * 6 + 5, none⟩ = some (.int .u32 0) := (by have h := HX.out w1 hb1 5 _ rfl; rw [HN.out] at h; simpa using h)) | (go_at_call 27; refine (C27 _).mono ?_; rintro e w2 ⟨rfl, rfl⟩) | fail)
          have hbW := (hb1.alloc hb1.size (.cells #[.int .u32 0] 65))
          generalize hW0 : w1.alloc (.cells #[.int .u32 0] 65) = W at hbW ⊢
          clear hW0
          have d0 : W.cell? ⟨g, i * 6, none⟩ = some (.int .i32 x0) := by have h := HX.out W hbW 0 _ rfl; simpa using h
          have d1 : W.cell? ⟨g, i * 6 + 1, none⟩ = some (.int .i32 x1) := by have h := HX.out W hbW 1 _ rfl; simpa using h
          have d2 : W.cell? ⟨g, i * 6 + 2, none⟩ = some (.int .i32 x2) := by have h := HX.out W hbW 2 _ rfl; simpa using h
          have d3 : W.cell? ⟨g, i * 6 + 3, none⟩ = some (.int .i32 x3) := by have h := HX.out W hbW 3 _ rfl; simpa using h
          have d4 : W.cell? ⟨g, i * 6 + 4, none⟩ = some (.int .i32 x4) := by have h := HX.out W hbW 4 _ rfl; simpa using h
          go_still_tail 27, (by kernel_rfl)
          change wpList _ _ _ _ _ W.drew
          have hd : Below wr.heap.size wr W.drew := hbW.trans ⟨rfl, rfl, rfl, Nat.le_refl _, fun _ _ => rfl⟩
          generalize W.drew = W2 at hd ⊢
          go_wp2
          go_ret
          refine ⟨_, rfl, ⟨hil, _, rfl, ?_⟩, (hb.trans (hd.mono hb.size)).alloc (Nat.le_trans hb.size hd.size) _⟩
          rw [← HQ.out]
          exact heap_alloc_new _ _

set_option maxRecDepth 100000 in
set_option maxHeartbeats 1000000 in
theorem found_nil (line col : Int) (a : Option Addr) (cap : Nat) (w : World) (hL : 0 ≤ line ∧ line ≤ 1000) (hC : 0 ≤ col ∧ col ≤ 10000) :
    Calls Try.prog 11 #[.slice a 0 cap, .int .i64 line, .int .i64 col] w fun e w' => e = .returned (.slice none 0 0) ∧ Below w.heap.size w w' := by
  have C26 : Calls Try.prog 26 #[.pointer (some ⟨w.heap.size, 0, none⟩), .int .i32 line, .int .i32 col] (w.alloc (.cells #[.slice none 0 0, .slice none 0 0, .slice none 0 0, .slice none 0 0] 63)) fun e w' => e = .returned (.pointer none) ∧ (w.alloc (.cells #[.slice none 0 0, .slice none 0 0, .slice none 0 0, .slice none 0 0] 63)) = w' := find_nil line col _ _ _ _ _ (heap_alloc_new _ _)
  go_enter Try.func11, Try.ntmps11
  go_wp2
  refine wp_loop_rounds 1 ?_
  rw [rounds_succ]
  go_wp2_with (first | (go_at_call 26; refine C26.mono ?_; rintro e w1 ⟨rfl, rfl⟩) | fail)
  go_ret
  exact ⟨rfl, (Below.refl _ w).alloc (Nat.le_refl _) _⟩
/-- The slice value '.slice a n cap' holds the mappings l. -/
def Maps (w : World) (a : Option Addr) (n : Nat) (l : List Mp) : Prop := l.length = n ∧ (l = [] ∨ ∃ b off, a = some ⟨b, off, none⟩ ∧ b < w.heap.size ∧ Cells6 w b off l Mp.icells)
theorem Maps.keep {w w' : World} {a : Option Addr} {n : Nat} {l : List Mp} (h : Maps w a n l) (hb : Below w.heap.size w w') : Maps w' a n l := by
  refine ⟨h.1, ?_⟩
  rcases h.2 with h | ⟨b, off, rfl, hlt, hc⟩
  · exact .inl h
  · exact .inr ⟨b, off, rfl, Nat.lt_of_lt_of_le hlt hb.size, hc.keep hlt hb⟩
theorem gotten.lt {l : List Mp} {o : Option Nat} {w w' : World} {v : Value} (h : gotten l o w v) (hb : Below w.heap.size w w') : gotten l o w' v := by
  cases o with
  | none => exact h
  | some i =>
    obtain ⟨hi, g, rfl, hg⟩ := h
    exact ⟨hi, g, rfl, by rw [hb.block g (Array.getElem?_eq_some_iff.1 hg).1]; exact hg⟩
theorem found_any (l : List Mp) (line col : Int) (o : Option Nat) (a : Option Addr) (cap n : Nat) (w : World) (hm : Maps w a n l) (hn : n ≤ 1000)
    (hr : Rising l l.length) (hf : AllFine l l.length) (ho : Last l line col l.length o) (hL : 0 ≤ line ∧ line ≤ 1000) (hC : 0 ≤ col ∧ col ≤ 10000) :
    Calls Try.prog 11 #[.slice a n cap, .int .i64 line, .int .i64 col] w fun e w' => ∃ v, e = .returned v ∧ gotten l o w' v ∧ Below w.heap.size w w' := by
  have h1 := hm.1
  rcases hm.2 with rfl | ⟨b, off, rfl, hlt, hc⟩
  · have h2 : n = 0 := h1.symm
    subst h2
    have h3 : o = none := by
      cases o with
      | none => rfl
      | some i => obtain ⟨_, hi, _⟩ := ho; exact absurd hi (by simp)
    subst h3
    refine (found_nil line col a cap w hL hC).mono ?_
    rintro e w' ⟨rfl, hb⟩
    exact ⟨_, rfl, rfl, hb⟩
  · by_cases h0 : 0 < n
    · exact found_some l line col o b off cap n w h1 hn h0 hlt hr hf ho hL hC hc
    · have h2 : n = 0 := by omega
      subst h2
      have h3 : o = none := by
        cases o with
        | none => rfl
        | some i => obtain ⟨_, hi, _⟩ := ho; omega
      subst h3
      refine (found_nil line col _ cap w hL hC).mono ?_
      rintro e w' ⟨rfl, hb⟩
      exact ⟨_, rfl, rfl, hb⟩
/-- The law's own try: one mapping without a name. -/
theorem probe_found (W : World) : Calls Try.prog 11 #[.slice (some ⟨W.heap.size, 0, none⟩) 1 1, .int .i64 0, .int .i64 0] (W.alloc (.cells #[.int .i64 0, .int .i64 0, .int .i64 0, .int .i64 0, .int .i64 0, .int .i64 (-1)] 29)) fun e w' => ∃ g, e = .returned (.slice (some ⟨g, 0, none⟩) 1 1) ∧ Below W.heap.size W w' := by
  have hb := (Below.refl _ W).alloc (Nat.le_refl _) (.cells #[.int .i64 0, .int .i64 0, .int .i64 0, .int .i64 0, .int .i64 0, .int .i64 (-1)] 29)
  refine (found_any [⟨0, 0, 0, 0, 0, -1⟩] 0 0 (some 0) _ 1 1 _ ⟨rfl, .inr ⟨_, _, rfl, by simp, ?_⟩⟩ (by decide) ?_ ?_ ?_ (by decide) (by decide)).mono ?_
  · intro i hi j u hu
    obtain rfl : i = 0 := by simp at hi; omega
    have h := block_at W W.heap.size [.int .i64 0, .int .i64 0, .int .i64 0, .int .i64 0, .int .i64 0, .int .i64 (-1)] 29 rfl j u hu
    have e : (⟨W.heap.size, 0, none⟩ : Addr).add j = ⟨W.heap.size, 0 + 0 * 6 + j, none⟩ := by unfold Addr.add; split <;> simp_all
    rwa [e] at h
  · intro i hi; simp at hi
  · intro i hi _
    obtain rfl : i = 0 := by simp at hi; omega
    show (Mp.mk 0 0 0 0 0 (-1)).Fine
    exact ⟨by decide, by decide, by decide, by decide, by decide, by decide, by decide, by decide, by decide, by decide, by decide, by decide⟩
  · exact ⟨by decide, by decide, ⟨rfl, by decide⟩, fun j hj h1 _ => by simp at hj; omega⟩
  · rintro e w' ⟨v, rfl, ⟨_, g, rfl, _⟩, hb'⟩
    exact ⟨g, rfl, hb.trans (hb'.mono hb.size)⟩
end Go.Proofs.Ytfpfpdjnmfiffaa
