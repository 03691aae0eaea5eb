/- What (*helpers.Joiner).AddString and AddBytes tell. -/
import Derived.Test.YtfpfpdjnmfiffaaFits
import Derived.Deep.RegionHeld3
import Derived.Deep.RegionLaw
import Derived.BigRegion
import Derived.Deep.AppendLies
import Derived.Deep.DrawnRows
import Derived.Deep.Onto
import Derived.OwnWalk
import Derived.LoopN
import Derived.StillTactics
namespace Go.Proofs.Ytfpfpdjnmfiffaa
open Go.RowKit
set_option linter.unusedVariables false
set_option linter.unusedSimpArgs false
attribute [local go_sem ↓] Go.wp_at_zero Go.wp_at_succ

theorem frozen_new {w : World} {B j : Nat} {o : Obj} (hB : B < w.heap.size) (h : w.frozen? ⟨B, j, none⟩ = false) : (w.alloc o).drew.frozen? ⟨B, j, none⟩ = false := by
  show (w.alloc o).frozen? _ = false
  rw [World.frozen?_of_block (w := w)]
  · exact h
  · show (w.heap.push o)[B]? = _
    rw [Array.getElem?_push, if_neg (Nat.ne_of_lt hB)]
theorem infoJs : (Try.prog.info? 80).map (fun i => (i.zero, i.size, i.bytes)) = some (some (.agg #[.string ByteArray.empty, .int .u32 0]), 2, 24) := by kernel_rfl
theorem infoJb : (Try.prog.info? 82).map (fun i => (i.zero, i.size, i.bytes)) = some (some (.agg #[.slice none 0 0, .int .u32 0]), 2, 32) := by kernel_rfl
/-- The joiner's own block. -/
def Jn (B : Nat) (vs vb : Value) (len last : Int) (w : World) : Prop := w.heap[B]? = some (.cells #[vs, vb, .int .u32 len, .int .u8 last] 54)
theorem Jn.c0 {B : Nat} {vs vb : Value} {len last : Int} {w : World} (h : Jn B vs vb len last w) : w.cell? ⟨B, 0, none⟩ = some vs := by rw [Lib.cell_of_heap h]; rfl
theorem Jn.c1 {B : Nat} {vs vb : Value} {len last : Int} {w : World} (h : Jn B vs vb len last w) : w.cell? ⟨B, 1, none⟩ = some vb := by rw [Lib.cell_of_heap h]; rfl
theorem Jn.c2 {B : Nat} {vs vb : Value} {len last : Int} {w : World} (h : Jn B vs vb len last w) : w.cell? ⟨B, 2, none⟩ = some (.int .u32 len) := by rw [Lib.cell_of_heap h]; rfl
theorem Jn.c3 {B : Nat} {vs vb : Value} {len last : Int} {w : World} (h : Jn B vs vb len last w) : w.cell? ⟨B, 3, none⟩ = some (.int .u8 last) := by rw [Lib.cell_of_heap h]; rfl
theorem Jn.f {B : Nat} {vs vb : Value} {len last : Int} {w : World} (h : Jn B vs vb len last w) (j : Nat) : w.frozen? ⟨B, j, none⟩ = false := by simp [World.frozen?, show w.heap[B]? = _ from h]
theorem Jn.lt {B : Nat} {vs vb : Value} {len last : Int} {w : World} (h : Jn B vs vb len last w) : B < w.heap.size := (Array.getElem?_eq_some_iff.1 h).1
theorem Jn.set0 {B : Nat} {vs vb : Value} {len last : Int} {w : World} (h : Jn B vs vb len last w) (u : Value) : Jn B u vb len last (w.setCell ⟨B, 0, none⟩ u) := by
  unfold Jn at *; simp [World.setCell, Array.getElem?_modify, h]
theorem Jn.set1 {B : Nat} {vs vb : Value} {len last : Int} {w : World} (h : Jn B vs vb len last w) (u : Value) : Jn B vs u len last (w.setCell ⟨B, 1, none⟩ u) := by
  unfold Jn at *; simp [World.setCell, Array.getElem?_modify, h]
theorem Jn.set2 {B : Nat} {vs vb : Value} {len last : Int} {w : World} (h : Jn B vs vb len last w) (u : Int) : Jn B vs vb u last (w.setCell ⟨B, 2, none⟩ (.int .u32 u)) := by
  unfold Jn at *; simp [World.setCell, Array.getElem?_modify, h]
theorem Jn.set3 {B : Nat} {vs vb : Value} {len last : Int} {w : World} (h : Jn B vs vb len last w) (u : Int) : Jn B vs vb len u (w.setCell ⟨B, 3, none⟩ (.int .u8 u)) := by
  unfold Jn at *; simp [World.setCell, Array.getElem?_modify, h]
theorem Jn.drew {B : Nat} {vs vb : Value} {len last : Int} {w : World} (h : Jn B vs vb len last w) : Jn B vs vb len last w.drew := h

theorem Jn.alloc {B : Nat} {vs vb : Value} {len last : Int} {w : World} (h : Jn B vs vb len last w) (o : Obj) : Jn B vs vb len last (w.alloc o) := by
  have hl := h.lt
  unfold Jn at *
  show (w.heap.push o)[B]? = _
  rw [Array.getElem?_push, if_neg (Nat.ne_of_lt hl)]
  exact h
theorem Jn.grown {B : Nat} {vs vb : Value} {len last : Int} {w w' : World} {row : Option Nat} (h : Jn B vs vb len last w) (hg : w.grownBy w' row) (hne : some B ≠ row) : Jn B vs vb len last w' := by
  have hl := h.lt
  unfold Jn at *
  rw [hg.block B hl hne]
  exact h
/-- All blocks but two stand. -/
def Apart (B : Nat) (row : Option Nat) (w w' : World) : Prop := ∀ k o, w.heap[k]? = some o → k ≠ B → some k ≠ row → w'.heap[k]? = some o
theorem Apart.refl (B : Nat) (row : Option Nat) (w : World) : Apart B row w w := fun _ _ h _ _ => h
theorem Apart.set {B j : Nat} {row : Option Nat} {w w' : World} (h : Apart B row w w') (u : Value) : Apart B row w (w'.setCell ⟨B, j, none⟩ u) := fun k o hk hB hr => by
  rw [Below.heap_setCell _ _ _ _ (fun e => hB (by simpa using e))]
  exact h k o hk hB hr
theorem Apart.alloc {B : Nat} {row : Option Nat} {w w' : World} (h : Apart B row w w') (x : Obj) : Apart B row w (w'.alloc x).drew := fun k o hk hB hr => by
  have h1 := h k o hk hB hr
  have hl := (Array.getElem?_eq_some_iff.1 h1).1
  show (w'.heap.push x)[k]? = _
  rw [Array.getElem?_push, if_neg (Nat.ne_of_lt hl)]
  exact h1
theorem Apart.grown {B : Nat} {row : Option Nat} {w w' w'' : World} (h : Apart B row w w') (hg : w'.grownBy w'' row) : Apart B row w w'' := fun k o hk hB hr => by
  have h1 := h k o hk hB hr
  rw [hg.block k (Array.getElem?_eq_some_iff.1 h1).1 hr]
  exact h1
theorem own_set {w : World} {B j E sz n : Nat} {v : Value} {cs : List Value} (h : w.ownsRow (B + 1) E sz v n cs) (u : Value) : (w.setCell ⟨B, j, none⟩ u).ownsRow (B + 1) E sz v n cs := ownsRow_setCell_below h (a := ⟨B, j, none⟩) (Nat.lt_succ_self _) u
theorem below_drew {B : Nat} {w W : World} (h : Below B w W) (hB : B ≤ W.heap.size) (o : Obj) : Below B w (W.alloc o).drew := (h.alloc hB o).trans ⟨rfl, rfl, rfl, Nat.le_refl _, fun _ _ => rfl⟩
/-- The last byte behind a text. -/
def lastOf (s : List UInt8) (last : Int) : Int := match s.getLast? with
  | none => last
  | some x => x.toNat
theorem lastOf_nil {s : ByteArray} (h : ¬ 0 < s.size) (last : Int) : lastOf s.data.toList last = last := by
  have hl : s.data.toList.length = s.size := by simp
  have e : s.data.toList = [] := List.eq_nil_of_length_eq_zero (by omega)
  rw [e]; rfl
theorem lastOf_some {s : ByteArray} (h : s.size - 1 < s.size) (last : Int) : lastOf s.data.toList last = ((s[s.size - 1]'h).toNat : Int) := by
  unfold lastOf
  have e : s.data.toList.getLast? = some (s[s.size - 1]'h) := by
    rw [List.getLast?_eq_getElem?]
    have hl : s.data.toList.length = s.size := by simp
    rw [hl, List.getElem?_eq_getElem (by rw [hl]; exact h)]
    rfl
  rw [e]
set_option maxRecDepth 100000 in
set_option maxHeartbeats 4000000 in
theorem addString_any (B n : Nat) (vs vb : Value) (len : Nat) (last : Int) (xs : List Value) (s : ByteArray) (w : World) (hJ : Jn B vs vb len last w) (hv : w.ownsRow (B + 1) 80 2 vs n xs) (hs : s.size ≤ 1000) (hl : len ≤ 100000) (hn : n ≤ 1000) :
    Calls Try.prog 19 #[.pointer (some ⟨B, 0, none⟩), .string s] w fun e w' => e = .returned (.tuple #[]) ∧ ∃ vs', Jn B vs' vb ((len + s.size : Nat) : Int) (lastOf s.data.toList last) w' ∧ w'.ownsRow (B + 1) 80 2 vs' (n + 1) (xs ++ [.string s, .int .u32 len]) ∧ Apart B vs.ownBlock w w' ∧ Below B w w' := by
  obtain ⟨i0, hi, hz0, hz1, hz2⟩ := info_parts infoJs
  by_cases h0 : 0 < s.size
  · have t1 : decide ((0 : Int) < (s.size : Int)) = true := decide_eq_true (by omega)
    obtain ⟨x, hx⟩ : ∃ x, (s[s.size - 1]'(by omega)).toNat = x := ⟨_, rfl⟩
    have hlast : lastOf s.data.toList last = (x : Int) := by rw [lastOf_some (by omega), hx]
    have f3 := hJ.f 3
    have c3 := hJ.c3
    have HLast := Lib.hid hlast
    clear hlast
    have hne : some B ≠ vs.ownBlock := fun e => by have := (hv.lt B e.symm).1; omega
    have HJ := Lib.hid (hJ.set3 (x : Int))
    have HV : Hid (World.ownsRow (w.setCell ⟨B, 3, none⟩ (.int .u8 (x : Int))) (B + 1) 80 2 vs n xs) := (own_set hv _)
    have HA : Hid (Apart B vs.ownBlock w (w.setCell ⟨B, 3, none⟩ (.int .u8 (x : Int)))) := (Apart.refl _ _ _).set _
    have HBl : Hid (Below B w (w.setCell ⟨B, 3, none⟩ (.int .u8 (x : Int)))) := (Below.refl B w).setCell (p := ⟨B, 3, none⟩) (Nat.le_refl _) _
    have hB := hJ.lt
    clear hJ hv
    go_enter Try.func19, Try.ntmps19
    go_wp2_with fail
    generalize (w.setCell ⟨B, 3, none⟩ (.int .u8 (x : Int))) = W at HJ HV HA HBl ⊢
    have c0 := HJ.out.c0
    have c2 := HJ.out.c2
    have f0 := HJ.out.f 0
    have hBW := HJ.out.lt
    go_region_law
      ((refine step_append_lies _ (by rfl) _ _ _ (by rfl) (B + 1) 80 i0 _ 2 24 Try.underlying50 hi hz0 hz1 hz2 rfl (by omega) vs n xs (by rfl) ((HV.out.alloc _).drew)
          ⟨W.heap.size, 0, none⟩ 1 1 [.string s, .int .u32 (len : Int)] (by rfl) (by rfl) (World.news_of_block (cs := #[.string s, .int .u32 (len : Int)]) (t := 80) (fr := (0, 0)) (heap_alloc_new W _)) (by simp [Value.oneCell'])
          (by omega) (by unfold maxLen; omega) (by omega) (by simp; omega) (W.heap.size + 1) (by simp) ?_; intro gg cap w1 hown1 hgrow hat hlt; have hJ1 := ((HJ.out.alloc (.cells #[.string s, .int .u32 (len : Int)] 80)).drew).grown hgrow hne; have k0 := hJ1.c0; have kf := hJ1.f 0))
    all_goals (
      have hJ2 := hJ1.set0 (.slice (some ⟨gg, 0, none⟩) (n + 1) cap)
      have HO2 := Lib.hid (own_set (j := 0) hown1 (.slice (some ⟨gg, 0, none⟩) (n + 1) cap))
      have HA2 := Lib.hid (((HA.out.alloc _).grown hgrow).set (j := 0) (.slice (some ⟨gg, 0, none⟩) (n + 1) cap))
      have HB2 := Lib.hid (((below_drew HBl.out (Nat.le_of_lt hBW) (.cells #[.string s, .int .u32 (len : Int)] 80)).grown hgrow (by simp; omega) (fun k hk => Nat.le_trans (Nat.le_succ _) (HV.out.lt k hk).1)).setCell (p := ⟨B, 0, none⟩) (Nat.le_refl _) (.slice (some ⟨gg, 0, none⟩) (n + 1) cap))
      clear hJ1 hown1 hgrow hat hlt k0 kf HV HA HBl HJ c0 c2 f0
      generalize w1.setCell ⟨B, 0, none⟩ (.slice (some ⟨gg, 0, none⟩) (n + 1) cap) = W2 at hJ2 HO2 HA2 HB2 ⊢
      have c2 := hJ2.c2
      have f2 := hJ2.f 2
      have HJ2 := Lib.hid hJ2
      clear hJ2
      go_wp2
      go_end0
      refine ⟨rfl, .slice (some ⟨gg, 0, none⟩) (n + 1) cap, ?_, own_set HO2.out _, HA2.out.set _, HB2.out.setCell (p := ⟨B, 2, none⟩) (Nat.le_refl _) _⟩
      rw [HLast.out]
      have h := HJ2.out.set2 ((len : Int) + (s.size : Int))
      rw [show ((len + s.size : Nat) : Int) = (len : Int) + (s.size : Int) by omega]
      exact h)
  · have t1 : decide ((0 : Int) < (s.size : Int)) = false := decide_eq_false (by omega)
    have hlast := lastOf_nil h0 last
    have HLast := Lib.hid hlast
    clear hlast
    have hne : some B ≠ vs.ownBlock := fun e => by have := (hv.lt B e.symm).1; omega
    have HJ := Lib.hid hJ
    have HV : Hid (World.ownsRow w (B + 1) 80 2 vs n xs) := hv
    have HA : Hid (Apart B vs.ownBlock w w) := Apart.refl _ _ _
    have HBl : Hid (Below B w w) := Below.refl B w
    have hB := hJ.lt
    clear hJ hv
    go_enter Try.func19, Try.ntmps19
    go_wp2_with fail
    have hWw : ∃ W, W = w := ⟨_, rfl⟩
    obtain ⟨W, hWw⟩ := hWw
    rw [← hWw]
    have HJ : Hid (Jn B vs vb (len : Int) last W) := by rw [hWw]; exact HJ
    have HV : Hid (W.ownsRow (B + 1) 80 2 vs n xs) := by rw [hWw]; exact HV
    have HA : Hid (Apart B vs.ownBlock w W) := by rw [hWw]; exact HA
    have HBl : Hid (Below B w W) := by rw [hWw]; exact HBl
    clear hWw
    have c0 := HJ.out.c0
    have c2 := HJ.out.c2
    have f0 := HJ.out.f 0
    have hBW := HJ.out.lt
    go_region_law
      ((refine step_append_lies _ (by rfl) _ _ _ (by rfl) (B + 1) 80 i0 _ 2 24 Try.underlying50 hi hz0 hz1 hz2 rfl (by omega) vs n xs (by rfl) ((HV.out.alloc _).drew)
          ⟨W.heap.size, 0, none⟩ 1 1 [.string s, .int .u32 (len : Int)] (by rfl) (by rfl) (World.news_of_block (cs := #[.string s, .int .u32 (len : Int)]) (t := 80) (fr := (0, 0)) (heap_alloc_new W _)) (by simp [Value.oneCell'])
          (by omega) (by unfold maxLen; omega) (by omega) (by simp; omega) (W.heap.size + 1) (by simp) ?_; intro gg cap w1 hown1 hgrow hat hlt; have hJ1 := ((HJ.out.alloc (.cells #[.string s, .int .u32 (len : Int)] 80)).drew).grown hgrow hne; have k0 := hJ1.c0; have kf := hJ1.f 0))
    all_goals (
      have hJ2 := hJ1.set0 (.slice (some ⟨gg, 0, none⟩) (n + 1) cap)
      have HO2 := Lib.hid (own_set (j := 0) hown1 (.slice (some ⟨gg, 0, none⟩) (n + 1) cap))
      have HA2 := Lib.hid (((HA.out.alloc _).grown hgrow).set (j := 0) (.slice (some ⟨gg, 0, none⟩) (n + 1) cap))
      have HB2 := Lib.hid (((below_drew HBl.out (Nat.le_of_lt hBW) (.cells #[.string s, .int .u32 (len : Int)] 80)).grown hgrow (by simp; omega) (fun k hk => Nat.le_trans (Nat.le_succ _) (HV.out.lt k hk).1)).setCell (p := ⟨B, 0, none⟩) (Nat.le_refl _) (.slice (some ⟨gg, 0, none⟩) (n + 1) cap))
      clear hJ1 hown1 hgrow hat hlt k0 kf HV HA HBl HJ c0 c2 f0
      generalize w1.setCell ⟨B, 0, none⟩ (.slice (some ⟨gg, 0, none⟩) (n + 1) cap) = W2 at hJ2 HO2 HA2 HB2 ⊢
      have c2 := hJ2.c2
      have f2 := hJ2.f 2
      have HJ2 := Lib.hid hJ2
      clear hJ2
      go_wp2
      go_end0
      refine ⟨rfl, .slice (some ⟨gg, 0, none⟩) (n + 1) cap, ?_, own_set HO2.out _, HA2.out.set _, HB2.out.setCell (p := ⟨B, 2, none⟩) (Nat.le_refl _) _⟩
      rw [HLast.out]
      have h := HJ2.out.set2 ((len : Int) + (s.size : Int))
      rw [show ((len + s.size : Nat) : Int) = (len : Int) + (s.size : Int) by omega]
      exact h)
set_option maxRecDepth 100000 in
set_option maxHeartbeats 4000000 in
theorem addBytes_any (B n g c : Nat) (vs vb : Value) (len : Nat) (last : Int) (xs : List Value) (s : ByteArray) (w : World) (hJ : Jn B vs vb len last w) (hv : w.ownsRow (B + 1) 82 2 vb n xs) (hs : s.size ≤ 1000) (hl : len ≤ 100000) (hn : n ≤ 1000) (hbytes : ∀ i (hi : i < s.size), w.cell? ⟨g, i, none⟩ = some (.int .u8 ((s[i]'hi).toNat : Int))) :
    Calls Try.prog 20 #[.pointer (some ⟨B, 0, none⟩), .slice (some ⟨g, 0, none⟩) s.size c] w fun e w' => e = .returned (.tuple #[]) ∧ ∃ vb', Jn B vs vb' ((len + s.size : Nat) : Int) (lastOf s.data.toList last) w' ∧ w'.ownsRow (B + 1) 82 2 vb' (n + 1) (xs ++ [.slice (some ⟨g, 0, none⟩) s.size c, .int .u32 len]) ∧ Apart B vb.ownBlock w w' ∧ Below B w w' := by
  obtain ⟨i0, hi, hz0, hz1, hz2⟩ := info_parts infoJb
  by_cases h0 : 0 < s.size
  · have t1 : decide ((0 : Int) < (s.size : Int)) = true := decide_eq_true (by omega)
    obtain ⟨x, hx⟩ : ∃ x, (s[s.size - 1]'(by omega)).toNat = x := ⟨_, rfl⟩
    have hlast : lastOf s.data.toList last = (x : Int) := by rw [lastOf_some (by omega), hx]
    have cx : w.cell? ⟨g, s.size - 1, none⟩ = some (.int .u8 (x : Int)) := by rw [← hx]; exact hbytes _ _
    have f3 := hJ.f 3
    have c3 := hJ.c3
    have HLast := Lib.hid hlast
    clear hlast
    have hne : some B ≠ vb.ownBlock := fun e => by have := (hv.lt B e.symm).1; omega
    have HJ := Lib.hid (hJ.set3 (x : Int))
    have HV : Hid (World.ownsRow (w.setCell ⟨B, 3, none⟩ (.int .u8 (x : Int))) (B + 1) 82 2 vb n xs) := (own_set hv _)
    have HA : Hid (Apart B vb.ownBlock w (w.setCell ⟨B, 3, none⟩ (.int .u8 (x : Int)))) := (Apart.refl _ _ _).set _
    have HBl : Hid (Below B w (w.setCell ⟨B, 3, none⟩ (.int .u8 (x : Int)))) := (Below.refl B w).setCell (p := ⟨B, 3, none⟩) (Nat.le_refl _) _
    have hB := hJ.lt
    clear hJ hv hbytes
    go_enter Try.func20, Try.ntmps20
    go_wp2_with fail
    generalize (w.setCell ⟨B, 3, none⟩ (.int .u8 (x : Int))) = W at HJ HV HA HBl ⊢
    have c0 := HJ.out.c1
    have c2 := HJ.out.c2
    have f0 := HJ.out.f 1
    have hBW := HJ.out.lt
    go_region_law
      ((refine step_append_lies _ (by rfl) _ _ _ (by rfl) (B + 1) 82 i0 _ 2 32 Try.underlying51 hi hz0 hz1 hz2 rfl (by omega) vb n xs (by rfl) ((HV.out.alloc _).drew)
          ⟨W.heap.size, 0, none⟩ 1 1 [.slice (some ⟨g, 0, none⟩) s.size c, .int .u32 (len : Int)] (by rfl) (by rfl) (World.news_of_block (cs := #[.slice (some ⟨g, 0, none⟩) s.size c, .int .u32 (len : Int)]) (t := 82) (fr := (0, 0)) (heap_alloc_new W _)) (by simp [Value.oneCell'])
          (by omega) (by unfold maxLen; omega) (by omega) (by simp; omega) (W.heap.size + 1) (by simp) ?_; intro gg cap w1 hown1 hgrow hat hlt; have hJ1 := ((HJ.out.alloc (.cells #[.slice (some ⟨g, 0, none⟩) s.size c, .int .u32 (len : Int)] 82)).drew).grown hgrow hne; have k0 := hJ1.c1; have kf := hJ1.f 1))
    all_goals (
      have hJ2 := hJ1.set1 (.slice (some ⟨gg, 0, none⟩) (n + 1) cap)
      have HO2 := Lib.hid (own_set (j := 1) hown1 (.slice (some ⟨gg, 0, none⟩) (n + 1) cap))
      have HA2 := Lib.hid (((HA.out.alloc _).grown hgrow).set (j := 1) (.slice (some ⟨gg, 0, none⟩) (n + 1) cap))
      have HB2 := Lib.hid (((below_drew HBl.out (Nat.le_of_lt hBW) (.cells #[.slice (some ⟨g, 0, none⟩) s.size c, .int .u32 (len : Int)] 82)).grown hgrow (by simp; omega) (fun k hk => Nat.le_trans (Nat.le_succ _) (HV.out.lt k hk).1)).setCell (p := ⟨B, 1, none⟩) (Nat.le_refl _) (.slice (some ⟨gg, 0, none⟩) (n + 1) cap))
      clear hJ1 hown1 hgrow hat hlt k0 kf HV HA HBl HJ c0 c2 f0
      generalize w1.setCell ⟨B, 1, none⟩ (.slice (some ⟨gg, 0, none⟩) (n + 1) cap) = W2 at hJ2 HO2 HA2 HB2 ⊢
      have c2 := hJ2.c2
      have f2 := hJ2.f 2
      have HJ2 := Lib.hid hJ2
      clear hJ2
      go_wp2
      go_end0
      refine ⟨rfl, .slice (some ⟨gg, 0, none⟩) (n + 1) cap, ?_, own_set HO2.out _, HA2.out.set _, HB2.out.setCell (p := ⟨B, 2, none⟩) (Nat.le_refl _) _⟩
      rw [HLast.out]
      have h := HJ2.out.set2 ((len : Int) + (s.size : Int))
      rw [show ((len + s.size : Nat) : Int) = (len : Int) + (s.size : Int) by omega]
      exact h)
  · have t1 : decide ((0 : Int) < (s.size : Int)) = false := decide_eq_false (by omega)
    have hlast := lastOf_nil h0 last
    have HLast := Lib.hid hlast
    clear hlast
    have hne : some B ≠ vb.ownBlock := fun e => by have := (hv.lt B e.symm).1; omega
    have HJ := Lib.hid hJ
    have HV : Hid (World.ownsRow w (B + 1) 82 2 vb n xs) := hv
    have HA : Hid (Apart B vb.ownBlock w w) := Apart.refl _ _ _
    have HBl : Hid (Below B w w) := Below.refl B w
    have hB := hJ.lt
    clear hJ hv hbytes
    go_enter Try.func20, Try.ntmps20
    go_wp2_with fail
    have hWw : ∃ W, W = w := ⟨_, rfl⟩
    obtain ⟨W, hWw⟩ := hWw
    rw [← hWw]
    have HJ : Hid (Jn B vs vb (len : Int) last W) := by rw [hWw]; exact HJ
    have HV : Hid (W.ownsRow (B + 1) 82 2 vb n xs) := by rw [hWw]; exact HV
    have HA : Hid (Apart B vb.ownBlock w W) := by rw [hWw]; exact HA
    have HBl : Hid (Below B w W) := by rw [hWw]; exact HBl
    clear hWw
    have c0 := HJ.out.c1
    have c2 := HJ.out.c2
    have f0 := HJ.out.f 1
    have hBW := HJ.out.lt
    go_region_law
      ((refine step_append_lies _ (by rfl) _ _ _ (by rfl) (B + 1) 82 i0 _ 2 32 Try.underlying51 hi hz0 hz1 hz2 rfl (by omega) vb n xs (by rfl) ((HV.out.alloc _).drew)
          ⟨W.heap.size, 0, none⟩ 1 1 [.slice (some ⟨g, 0, none⟩) s.size c, .int .u32 (len : Int)] (by rfl) (by rfl) (World.news_of_block (cs := #[.slice (some ⟨g, 0, none⟩) s.size c, .int .u32 (len : Int)]) (t := 82) (fr := (0, 0)) (heap_alloc_new W _)) (by simp [Value.oneCell'])
          (by omega) (by unfold maxLen; omega) (by omega) (by simp; omega) (W.heap.size + 1) (by simp) ?_; intro gg cap w1 hown1 hgrow hat hlt; have hJ1 := ((HJ.out.alloc (.cells #[.slice (some ⟨g, 0, none⟩) s.size c, .int .u32 (len : Int)] 82)).drew).grown hgrow hne; have k0 := hJ1.c1; have kf := hJ1.f 1))
    all_goals (
      have hJ2 := hJ1.set1 (.slice (some ⟨gg, 0, none⟩) (n + 1) cap)
      have HO2 := Lib.hid (own_set (j := 1) hown1 (.slice (some ⟨gg, 0, none⟩) (n + 1) cap))
      have HA2 := Lib.hid (((HA.out.alloc _).grown hgrow).set (j := 1) (.slice (some ⟨gg, 0, none⟩) (n + 1) cap))
      have HB2 := Lib.hid (((below_drew HBl.out (Nat.le_of_lt hBW) (.cells #[.slice (some ⟨g, 0, none⟩) s.size c, .int .u32 (len : Int)] 82)).grown hgrow (by simp; omega) (fun k hk => Nat.le_trans (Nat.le_succ _) (HV.out.lt k hk).1)).setCell (p := ⟨B, 1, none⟩) (Nat.le_refl _) (.slice (some ⟨gg, 0, none⟩) (n + 1) cap))
      clear hJ1 hown1 hgrow hat hlt k0 kf HV HA HBl HJ c0 c2 f0
      generalize w1.setCell ⟨B, 1, none⟩ (.slice (some ⟨gg, 0, none⟩) (n + 1) cap) = W2 at hJ2 HO2 HA2 HB2 ⊢
      have c2 := hJ2.c2
      have f2 := hJ2.f 2
      have HJ2 := Lib.hid hJ2
      clear hJ2
      go_wp2
      go_end0
      refine ⟨rfl, .slice (some ⟨gg, 0, none⟩) (n + 1) cap, ?_, own_set HO2.out _, HA2.out.set _, HB2.out.setCell (p := ⟨B, 2, none⟩) (Nat.le_refl _) _⟩
      rw [HLast.out]
      have h := HJ2.out.set2 ((len : Int) + (s.size : Int))
      rw [show ((len + s.size : Nat) : Int) = (len : Int) + (s.size : Int) by omega]
      exact h)
end Go.Proofs.Ytfpfpdjnmfiffaa
