/- impl.Advanced: AdvanceString and AdvanceBytes lead to the place that spec.Place tells. -/
import Derived.Test.YtnmielbjdadggaaDoorPlaceP
import Derived.Test.YtnmielbjdadggaaDoorShelf
import Derived.Test.YtnmielbjdadggaaDoorRows
import Derived.WalkKit
import Derived.WalkSpells
import Derived.WalkLawsBesides
import Derived.LoopTactic
import Derived.Lib.Hide
import Derived.Lib.Strings
import Derived.Laws.BitsAllLaws
import Derived.Lib.OthersKept
import Derived.Lib.TrimU
import Derived.OneCell
import Derived.Lib.RuneCountTail
import Derived.WalkSmall
namespace Go.Proofs.YtnmielbjdadggaaDoor
open Go.RowKit
set_option linter.unusedVariables false
set_option linter.unusedSimpArgs false
def Vec (w : World) (g : Nat) (t : TypeId) (xs : List Value) : Prop := w.heap[g]? = some (.cells xs.toArray t (0, 0))
theorem Vec.cell {w : World} {g : Nat} {t : TypeId} {xs : List Value} (h : Vec w g t xs) {j : Nat} {v : Value} (hj : xs[j]? = some v) : w.cell? ⟨g, j, none⟩ = some v := by
  unfold Vec at h
  simp [World.cell?, h, hj]
theorem Vec.free {w : World} {g : Nat} {t : TypeId} {xs : List Value} (h : Vec w g t xs) (j : Nat) : w.frozen? ⟨g, j, none⟩ = false := by
  unfold Vec at h
  simp [World.frozen?, h]
theorem Vec.lt {w : World} {g : Nat} {t : TypeId} {xs : List Value} (h : Vec w g t xs) : g < w.heap.size := lt_of_block h
theorem Vec.set {w : World} {g : Nat} {t : TypeId} {xs : List Value} (h : Vec w g t xs) (j : Nat) (v : Value) : Vec (w.setCell ⟨g, j, none⟩ v) g t (xs.set j v) := by
  have hlt := h.lt
  have h' : w.heap[g] = .cells xs.toArray t (0, 0) := by have := h; unfold Vec at this; simpa [Array.getElem?_eq_getElem hlt] using this
  show (w.heap.modify g _)[g]? = _
  rw [Array.getElem?_eq_getElem (by simpa using hlt), Array.getElem_modify_self, h']
  simp
theorem decode_one {s : ByteArray} {pos : Nat} (h : pos < s.size) (h13 : (Utf8.decode s pos).1 = 13) : (Utf8.decode s pos).2 = 1 := by
  by_cases h2 : (s.get! pos).toNat < 128
  · have hg : s.get! pos = s[pos]'h := by
      show s.data[pos]! = _
      rw [getElem!_pos s.data pos h]; rfl
    rw [hg] at h2
    rw [decode_ascii s pos h h2]
  · have := decode_hi s pos (by omega)
    omega
theorem index_at (s : ByteArray) (k b : Nat) (h : k < s.size) (hb : (s.get! k).toNat = b) (w : World) : (Instr.index 9 (.string s) (.int .i64 k)).run Tryd.prog w = .ok (.int .u8 b) w := by
  rw [run_index_string w 9 s .i64 k Tryd.underlying9, dif_pos ⟨by omega, by omega⟩]
  have : s.get! k = s[k]'h := by
    show s.data[k]! = _
    rw [getElem!_pos s.data k h]; rfl
  rw [← hb, this]
  rfl
def ints2 (l c : Nat) : List Value := [.int .i64 l, .int .i64 c]
theorem at0 (l c : Nat) : (ints2 l c)[0]? = some (.int .i64 l) := rfl
theorem at1 (l c : Nat) : (ints2 l c)[1]? = some (.int .i64 c) := rfl
set_option maxRecDepth 100000 in
set_option maxHeartbeats 4000000 in
theorem string_any (B : Nat) (s : ByteArray) (l0 c0 : Nat) (w : World) (hs : s.size ≤ 1000) (hl : l0 ≤ 10000) (hc : c0 ≤ 10000) (hV : Vec w B 34 (ints2 l0 c0)) :
    Calls Tryd.prog 8 #[.pointer (some ⟨B, 0, none⟩), .string s] w fun e w' => e = .returned (.tuple #[]) ∧ Vec w' B 34 (ints2 (place s l0 c0).1 (place s l0 c0).2) ∧ Below B w w' := by
  have hBs := hV.lt
  have h0 := hV.cell (at0 l0 c0)
  have h1 := hV.cell (at1 l0 c0)
  have HV := Lib.hid hV
  clear hV
  unfold place
  go_enter Tryd.func8, Tryd.ntmps8
  go_wp2
  go_loopw [4] (fun tc wr => ∃ pos l c : Nat, pos ≤ s.size ∧ tc = .int .i64 c ∧ wr.heap[w.heap.size]? = some (.stringIter s pos) ∧ l ≤ 10000 + pos ∧ c ≤ 10000 + 2 * pos ∧ Hid (placeL (runesL s pos) l c = placeL (runesL s 0) l0 c0) ∧ Hid (Vec wr B 34 (ints2 l c0)) ∧ Below B w wr) (fun _ wr => s.size - wr.iterPos w.heap.size)
  case atStart => exact ⟨0, l0, c0, Nat.zero_le _, rfl, World.iter_heap w s 0, by omega, by omega, Lib.hid rfl, Lib.hid ((Below.heap_alloc w _ B hBs).trans HV.out), (Below.refl _ w).alloc (by omega) _⟩
  case round =>
    obtain ⟨pos, l, c, hp, rfl, hit, hl1, hc1, HP, HVr, hb⟩ := hrel
    have hsz : w.heap.size < wr.heap.size := (Array.getElem?_eq_some_iff.1 hit).1
    by_cases hlt : pos < s.size
    · obtain ⟨r, hr⟩ : ∃ r, r = (Utf8.decode s pos).1 := ⟨_, rfl⟩
      obtain ⟨d, hd⟩ : ∃ d, d = (Utf8.decode s pos).2 := ⟨_, rfl⟩
      have hd4 := decode_wide s pos
      have hr4 := decode_top s pos
      have hnx : ∀ ty, (Instr.next (.pointer (some ⟨w.heap.size, 0, none⟩)) true ty).run Tryd.prog wr = .ok (.tuple #[.bool true, .int .i64 pos, .int .i32 r]) (wr.iterAt w.heap.size s (pos + d)) := fun ty => by
        rw [hr, hd]; exact Lib.run_next_any_at wr w.heap.size s pos ty hit hlt
      have hit2 := Lib.iterAt_heap wr w.heap.size s pos (pos + d) hit
      have hb2 := Lib.below_iterAt hb (k := w.heap.size) (by omega) s (pos + d)
      have hV2 : Vec (wr.iterAt w.heap.size s (pos + d)) B 34 (ints2 l c0) := (Lib.iterAt_other wr w.heap.size B s (pos + d) (by omega)).trans HVr.out
      generalize wr.iterAt w.heap.size s (pos + d) = W at *
      have hpp : wr.iterPos w.heap.size = pos := by simp only [World.iterPos, hit]
      have h0 := hV2.cell (at0 l c0)
      have hf := hV2.free
      have hV3 : ∀ n : Nat, Hid (Vec (W.setCell ⟨B, 0, none⟩ (.int .i64 n)) B 34 (ints2 n c0)) := fun n => Lib.hid (hV2.set 0 (.int .i64 n))
      have hit3 : ∀ n : Nat, (W.setCell ⟨B, 0, none⟩ (.int .i64 n)).heap[w.heap.size]? = some (.stringIter s (pos + d)) := fun n => (Below.heap_setCell W _ _ _ (by simp; omega)).trans hit2
      have hb3 : ∀ n : Nat, Below B w (W.setCell ⟨B, 0, none⟩ (.int .i64 n)) := fun n => hb2.setCell (Nat.le_refl _) _
      have HV2 := Lib.hid hV2
      have HI := Lib.hid hit2
      have HB := Lib.hid hb2
      have HI3 := Lib.hid hit3
      have HB3 := Lib.hid hb3
      have HV3 := Lib.hid hV3
      clear hit hit2 hb2 hb HVr hV2 hV3 hit3 hb3
      have hp2 := decode_in s pos hlt
      rw [← hd] at hd4 hp2
      rw [← hr] at hr4
      have hdr := runes_step hlt
      rw [← hr, ← hd] at hdr
      by_cases hr13 : r = 13
      · obtain rfl : d = 1 := by rw [hd]; exact decode_one hlt (by rw [← hr, hr13])
        subst hr13
        have hnl := head_nl s (pos + 1)
        by_cases hk1 : pos + 1 < s.size
        · obtain ⟨b, hb⟩ : ∃ b, (s.get! (pos + 1)).toNat = b := ⟨_, rfl⟩
          have hix := index_at s (pos + 1) b hk1 hb
          rw [show ((pos + 1 : Nat) : Int) = (pos : Int) + 1 by omega] at hix
          have hb256 : b < 256 := by rw [← hb]; exact (s.get! (pos + 1)).toNat_lt
          by_cases h10 : b = 10
          · have HP2 := Lib.hid ((place_crlf (l := l) (c := c) (hnl.2 ⟨hk1, hb.trans h10⟩)).symm.trans ((congrArg (placeL · l c) hdr).symm.trans HP.out))
            subst h10
            clear hr hd hdr HP hnl hb
            go_wp2
            go_roundw
            case rel => exact ⟨pos + 1, l, c + 1, hp2, rfl, HI.out, by omega, by omega, HP2, HV2, HB.out⟩
            case measure => rw [hpp, iterPos_of HI.out]; omega
          · have HP2 := Lib.hid ((place_cr (l := l) (c := c) (fun h => h10 (hb.symm.trans (hnl.1 h).2))).symm.trans ((congrArg (placeL · l c) hdr).symm.trans HP.out))
            have t1 : ((b : Int) == 10) = false := by simp; omega
            clear hr hd hdr HP hnl hb
            go_wp2
            go_roundw
            case rel => exact ⟨pos + 1, l + 1, 0, hp2, rfl, HI3.out (l + 1), by omega, by omega, HP2, HV3.out (l + 1), HB3.out (l + 1)⟩
            case measure => rw [hpp]; refine Nat.lt_of_le_of_lt (Nat.le_of_eq (congrArg (s.size - ·) (iterPos_of (HI3.out (l + 1))))) ?_; omega
        · have HP2 := Lib.hid ((place_cr (l := l) (c := c) (fun h => hk1 (hnl.1 h).1)).symm.trans ((congrArg (placeL · l c) hdr).symm.trans HP.out))
          clear hr hd hdr HP hnl
          go_wp2
          go_roundw
          case rel => exact ⟨pos + 1, l + 1, 0, hp2, rfl, HI3.out (l + 1), by omega, by omega, HP2, HV3.out (l + 1), HB3.out (l + 1)⟩
          case measure => rw [hpp]; refine Nat.lt_of_le_of_lt (Nat.le_of_eq (congrArg (s.size - ·) (iterPos_of (HI3.out (l + 1))))) ?_; omega
      · have t13 : ((r : Int) == 13) = false := by simp; omega
        by_cases hle : lineEnd r
        · have HP2 := Lib.hid ((place_line (l := l) (c := c) hr13 hle).symm.trans ((congrArg (placeL · l c) hdr).symm.trans HP.out))
          clear hr hd hdr HP
          rcases hle with hle | hle | hle | hle
          · exact absurd hle hr13
          all_goals
            subst hle
            clear t13 hr13
            go_wp2
            go_roundw
            case rel => exact ⟨pos + d, l + 1, 0, hp2, rfl, HI3.out (l + 1), by omega, by omega, HP2, HV3.out (l + 1), HB3.out (l + 1)⟩
            case measure => rw [hpp]; refine Nat.lt_of_le_of_lt (Nat.le_of_eq (congrArg (s.size - ·) (iterPos_of (HI3.out (l + 1))))) ?_; omega
        · have t10 : ((r : Int) == 10) = false := by unfold lineEnd at hle; simp; omega
          have t28 : ((r : Int) == 8232) = false := by unfold lineEnd at hle; simp; omega
          have t29 : ((r : Int) == 8233) = false := by unfold lineEnd at hle; simp; omega
          by_cases hbig : 65535 < r
          · have HP2 := Lib.hid ((place_two (l := l) (c := c) hbig).symm.trans ((congrArg (placeL · l c) hdr).symm.trans HP.out))
            have tb : decide ((r : Int) ≤ (65535 : Int)) = false := by simp; omega
            clear hr hd hdr HP hle
            go_wp2
            go_roundw
            case rel => exact ⟨pos + d, l, c + 2, hp2, rfl, HI.out, by omega, by omega, HP2, HV2, HB.out⟩
            case measure => rw [hpp, iterPos_of HI.out]; omega
          · have HP2 := Lib.hid ((place_one (l := l) (c := c) hbig hle).symm.trans ((congrArg (placeL · l c) hdr).symm.trans HP.out))
            have tb : decide ((r : Int) ≤ (65535 : Int)) = true := by simp; omega
            clear hr hd hdr HP hle
            go_wp2
            go_roundw
            case rel => exact ⟨pos + d, l, c + 1, hp2, rfl, HI.out, by omega, by omega, HP2, HV2, HB.out⟩
            case measure => rw [hpp, iterPos_of HI.out]; omega
    · have hnx : ∀ ty, (Instr.next (.pointer (some ⟨w.heap.size, 0, none⟩)) true ty).run Tryd.prog wr = _ := fun ty => Lib.run_next_end_at wr w.heap.size s pos ty hit hlt
      have h1 := HVr.out.cell (at1 l c0)
      have hf := HVr.out.free
      have HB := Lib.hid hb
      clear hb hit
      go_wp2
      go_end0
      have e := HP.out
      rw [runes_end hlt] at e
      rw [← e]
      exact ⟨rfl, HVr.out.set 1 _, HB.out.setCell (Nat.le_refl _) _⟩
theorem slice_from (g pos n c d : Nat) (h1 : d ≤ n) (h2 : n ≤ c) : ∃ ap, (∀ W : World, (Instr.slice 36 (.slice (some ⟨g, pos, none⟩) n c) (some (.int .i64 d)) none none).run Tryd.prog W = .ok (.slice ap (n - d) (c - d)) W) ∧ (0 < n - d → ap = some ⟨g, pos + d, none⟩) := by
  have key : ∀ W : World, (Instr.slice 36 (.slice (some ⟨g, pos, none⟩) n c) (some (.int .i64 d)) none none).run Tryd.prog W = .ok (sliced (some ⟨g, pos, none⟩) d n c 1) W := by
    intro W
    rw [run_slice_l W 36 (some ⟨g, pos, none⟩) n c (by rw [Tryd.underlying36]; kernel_rfl) .i64 d (by omega) (by omega)]
    have : Tryd.prog.elem 36 = 5 := by kernel_rfl
    rw [this, Tryd.sizeOf5]
    rfl
  by_cases h : d = c
  · refine ⟨some ⟨g, pos, none⟩, fun W => (key W).trans ?_, fun h3 => by omega⟩
    simp [sliced, h]
  · refine ⟨some ⟨g, pos + d, none⟩, fun W => (key W).trans ?_, fun _ => rfl⟩
    have h' : ¬ c = d := fun e => h e.symm
    simp only [sliced, if_neg h', Option.map_some, Addr.add, Nat.mul_one]
    by_cases hd : d = 0 <;> simp [hd]
theorem tabs_below {B : Nat} {w w' : World} (h : Lib.Utf8Tabs 0 1 w) (hB : 1 < B) (hb : Below B w w') : Lib.Utf8Tabs 0 1 w' :=
  ⟨fun c hc => (hb.cell (by show 0 < B; omega)).trans (h.1 c hc), fun i hi => ⟨(hb.cell (by show 1 < B; omega)).trans (h.2 i hi).1, (hb.cell (by show 1 < B; omega)).trans (h.2 i hi).2⟩⟩
def lenV : Value → Nat
  | .slice _ n _ => n
  | _ => 0
/-- Bytes in a block. -/
def BytesIn (s : ByteArray) (g : Nat) (w : World) : Prop := ∀ j, j < s.size → w.cell? ⟨g, j, none⟩ = some (.int .u8 (s.get! j).toNat)
theorem BytesIn.kept {s : ByteArray} {g : Nat} {w w' : World} (h : BytesIn s g w) (hk : w'.heap[g]? = w.heap[g]?) : BytesIn s g w' :=
  fun j hj => (World.cell?_of_block (w := w) hk).trans (h j hj)
set_option maxRecDepth 100000 in
set_option maxHeartbeats 4000000 in
theorem bytes_any (B g cap : Nat) (s : ByteArray) (l0 c0 : Nat) (w : World) (hs : s.size ≤ 1000) (hl : l0 ≤ 10000) (hc : c0 ≤ 10000) (hV : Vec w B 34 (ints2 l0 c0)) (hB1 : 1 < B) (hg : g ≠ B) (hgl : g < w.heap.size)
    (hcap : s.size ≤ cap) (hT : Lib.Utf8Tabs 0 1 w) (hby : BytesIn s g w) :
    Calls Tryd.prog 7 #[.pointer (some ⟨B, 0, none⟩), .slice (some ⟨g, 0, none⟩) s.size cap] w fun e w' => e = .returned (.tuple #[]) ∧ Vec w' B 34 (ints2 (place s l0 c0).1 (place s l0 c0).2) ∧ Below B w w' := by
  have hBs := hV.lt
  have h0 := hV.cell (at0 l0 c0)
  have h1 := hV.cell (at1 l0 c0)
  have HV := Lib.hid hV
  have HT := Lib.hid hT
  have HY := Lib.hid hby
  clear hV hT hby
  unfold place
  go_enter Tryd.func7, Tryd.ntmps7
  go_wp2
  go_loopw [1, 4] (fun tb tc wr => ∃ (pos m l c cp : Nat) (ap : Option Addr), pos + m = s.size ∧ m ≤ cp ∧ tb = .slice ap m cp ∧ (0 < m → ap = some ⟨g, pos, none⟩) ∧ tc = .int .i64 c ∧ l ≤ 10000 + pos ∧ c ≤ 10000 + 2 * pos ∧ Hid (placeL (runesL s pos) l c = placeL (runesL s 0) l0 c0) ∧ Hid (Vec wr B 34 (ints2 l c0)) ∧ Hid (BytesIn s g wr) ∧ g < wr.heap.size ∧ Below B w wr) (fun tb _ _ => lenV tb)
  case atStart => exact ⟨0, s.size, l0, c0, cap, _, by omega, hcap, rfl, fun _ => rfl, rfl, by omega, by omega, Lib.hid rfl, HV, HY, hgl, Below.refl _ w⟩
  case round =>
    obtain ⟨pos, m, l, c, cp, ap, hp, hcp, rfl, hap, rfl, hl1, hc1, HP, HVr, HYr, hgl2, hb⟩ := hrel
    by_cases hlt : 0 < m
    · obtain rfl := hap hlt
      have hlt2 : pos < s.size := by omega
      have CD0 := Tryd.utf8_DecodeRune (s.extract pos s.size) g pos cp wr (tabs_below HT.out hB1 hb) (fun j hj => by
        rw [Lib.tail_size] at hj
        rw [Lib.tail_get!]
        exact HYr.out (pos + j) (by omega))
      have ed : Lib.decodeGo (s.extract pos s.size) = Utf8.decode s pos := by
        unfold Lib.decodeGo
        rw [if_neg (by rw [Lib.tail_size]; omega), Lib.tail_decode, Nat.add_zero]
      have em : (s.extract pos s.size).size = m := by rw [Lib.tail_size]; omega
      rw [ed, em] at CD0
      clear ed em
      obtain ⟨r, hr⟩ : ∃ r, r = (Utf8.decode s pos).1 := ⟨_, rfl⟩
      obtain ⟨d, hd⟩ : ∃ d, d = (Utf8.decode s pos).2 := ⟨_, rfl⟩
      have hd4 := decode_wide s pos
      have hr4 := decode_top s pos
      have hp2 := decode_in s pos hlt2
      rw [← hd] at hd4 hp2
      rw [← hr] at hr4
      have hdr := runes_step hlt2
      rw [← hr, ← hd] at hdr
      rw [← hr, ← hd] at CD0
      have CD := Lib.hid CD0
      clear CD0
      have after : ∀ {W : World}, Below wr.heap.size wr W → Hid (Below B w W) ∧ Hid (g < W.heap.size) ∧ Hid (Vec W B 34 (ints2 l c0)) ∧ Hid (BytesIn s g W) ∧ W.cell? ⟨B, 0, none⟩ = some (.int .i64 l) ∧ (∀ j, W.frozen? ⟨B, j, none⟩ = false) ∧
          Hid (∀ n : Nat, Hid (Vec (W.setCell ⟨B, 0, none⟩ (.int .i64 n)) B 34 (ints2 n c0))) ∧ Hid (∀ n : Nat, Hid (BytesIn s g (W.setCell ⟨B, 0, none⟩ (.int .i64 n)))) ∧ Hid (∀ n : Nat, Below B w (W.setCell ⟨B, 0, none⟩ (.int .i64 n))) ∧ Hid (∀ n : Nat, g < (W.setCell ⟨B, 0, none⟩ (.int .i64 n)).heap.size) ∧
          (∀ j, j < s.size → W.cell? ⟨g, j, none⟩ = some (.int .u8 (s.get! j).toNat)) := fun {W} hb1 => by
        have e1 : Below B w W := hb.trans (hb1.mono (by have := HVr.out.lt; omega))
        have e2 : Vec W B 34 (ints2 l c0) := (hb1.block B HVr.out.lt).trans HVr.out
        have e3 : BytesIn s g W := HYr.out.kept (hb1.block g hgl2)
        have e4 : g < W.heap.size := Nat.lt_of_lt_of_le hgl2 hb1.size
        exact ⟨e1, e4, e2, e3, e2.cell (at0 l c0), e2.free, fun n => e2.set 0 (.int .i64 n), fun n => e3.kept (Below.heap_setCell W _ _ g hg), fun n => e1.setCell (Nat.le_refl _) _, fun n => by simpa using e4, e3⟩
      obtain ⟨ap', hsl, hap'⟩ := slice_from g pos m cp d (by omega) hcp
      clear hb hap HYr HVr
      by_cases hr13 : r = 13
      · obtain rfl : d = 1 := by rw [hd]; exact decode_one hlt2 (by rw [← hr, hr13])
        subst hr13
        rw [show ((1 : Nat) : Int) = 1 from rfl] at hsl
        have hnl := head_nl s (pos + 1)
        by_cases hk1 : 0 < m - 1
        · obtain rfl := hap' hk1
          have hk2 : pos + 1 < s.size := by omega
          obtain ⟨b, hbb⟩ : ∃ b, (s.get! (pos + 1)).toNat = b := ⟨_, rfl⟩
          have hb256 : b < 256 := by rw [← hbb]; exact (s.get! (pos + 1)).toNat_lt
          by_cases h10 : b = 10
          · have HP2 := Lib.hid ((place_crlf (l := l) (c := c) (hnl.2 ⟨hk2, hbb.trans h10⟩)).symm.trans ((congrArg (placeL · l c) hdr).symm.trans HP.out))
            clear hr hd hdr HP hnl
            go_wp2_with (go_at_call 9; refine CD.out.mono ?_; rintro e W ⟨rfl, hb1⟩)
            obtain ⟨HB2, HG2, HV2, HY2, h0, hf, HV3, HY3, HB3, HG3, hY⟩ := after hb1
            have hcell := hY (pos + 1) hk2
            rw [hbb, h10] at hcell
            clear hY hbb after hb1
            go_wp2
            go_roundw
            case rel => exact ⟨pos + 1, m - 1, l, c + 1, cp - 1, _, by omega, by omega, rfl, fun _ => rfl, rfl, by omega, by omega, HP2, HV2, HY2, HG2.out, HB2.out⟩
            case measure => show m - 1 < m; omega
          · have HP2 := Lib.hid ((place_cr (l := l) (c := c) (fun h => h10 (hbb.symm.trans (hnl.1 h).2))).symm.trans ((congrArg (placeL · l c) hdr).symm.trans HP.out))
            have t1 : ((b : Int) == 10) = false := by simp; omega
            clear hr hd hdr HP hnl
            go_wp2_with (go_at_call 9; refine CD.out.mono ?_; rintro e W ⟨rfl, hb1⟩)
            obtain ⟨HB2, HG2, HV2, HY2, h0, hf, HV3, HY3, HB3, HG3, hY⟩ := after hb1
            have hcell := hY (pos + 1) hk2
            rw [hbb] at hcell
            clear hY hbb after hb1
            go_wp2
            go_roundw
            case rel => exact ⟨pos + 1, m - 1, l + 1, 0, cp - 1, _, by omega, by omega, rfl, fun _ => rfl, rfl, by omega, by omega, HP2, HV3.out (l + 1), HY3.out (l + 1), HG3.out (l + 1), HB3.out (l + 1)⟩
            case measure => show m - 1 < m; omega
        · have HP2 := Lib.hid ((place_cr (l := l) (c := c) (fun h => by have := (hnl.1 h).1; omega)).symm.trans ((congrArg (placeL · l c) hdr).symm.trans HP.out))
          clear hr hd hdr HP hnl
          go_wp2_with (go_at_call 9; refine CD.out.mono ?_; rintro e W ⟨rfl, hb1⟩)
          obtain ⟨HB2, HG2, HV2, HY2, h0, hf, HV3, HY3, HB3, HG3, hY⟩ := after hb1
          clear hY after hb1
          go_wp2
          go_roundw
          case rel => exact ⟨pos + 1, m - 1, l + 1, 0, cp - 1, ap', by omega, by omega, rfl, hap', rfl, by omega, by omega, HP2, HV3.out (l + 1), HY3.out (l + 1), HG3.out (l + 1), HB3.out (l + 1)⟩
          case measure => show m - 1 < m; omega
      · have t13 : ((r : Int) == 13) = false := by simp; omega
        by_cases hle : lineEnd r
        · have HP2 := Lib.hid ((place_line (l := l) (c := c) hr13 hle).symm.trans ((congrArg (placeL · l c) hdr).symm.trans HP.out))
          clear hr hd hdr HP
          rcases hle with hle | hle | hle | hle
          · exact absurd hle hr13
          all_goals
            subst hle
            clear t13 hr13
            go_wp2_with (go_at_call 9; refine CD.out.mono ?_; rintro e W ⟨rfl, hb1⟩)
            obtain ⟨HB2, HG2, HV2, HY2, h0, hf, HV3, HY3, HB3, HG3, hY⟩ := after hb1
            clear hY after hb1
            go_wp2
            go_roundw
            case rel => exact ⟨pos + d, m - d, l + 1, 0, cp - d, ap', by omega, by omega, rfl, hap', rfl, by omega, by omega, HP2, HV3.out (l + 1), HY3.out (l + 1), HG3.out (l + 1), HB3.out (l + 1)⟩
            case measure => show m - d < m; omega
        · have t10 : ((r : Int) == 10) = false := by unfold lineEnd at hle; simp; omega
          have t28 : ((r : Int) == 8232) = false := by unfold lineEnd at hle; simp; omega
          have t29 : ((r : Int) == 8233) = false := by unfold lineEnd at hle; simp; omega
          by_cases hbig : 65535 < r
          · have HP2 := Lib.hid ((place_two (l := l) (c := c) hbig).symm.trans ((congrArg (placeL · l c) hdr).symm.trans HP.out))
            have tb : decide ((r : Int) ≤ (65535 : Int)) = false := by simp; omega
            clear hr hd hdr HP hle
            go_wp2_with (go_at_call 9; refine CD.out.mono ?_; rintro e W ⟨rfl, hb1⟩)
            obtain ⟨HB2, HG2, HV2, HY2, h0, hf, HV3, HY3, HB3, HG3, hY⟩ := after hb1
            clear hY after hb1
            go_wp2
            go_roundw
            case rel => exact ⟨pos + d, m - d, l, c + 2, cp - d, ap', by omega, by omega, rfl, hap', rfl, by omega, by omega, HP2, HV2, HY2, HG2.out, HB2.out⟩
            case measure => show m - d < m; omega
          · have HP2 := Lib.hid ((place_one (l := l) (c := c) hbig hle).symm.trans ((congrArg (placeL · l c) hdr).symm.trans HP.out))
            have tb : decide ((r : Int) ≤ (65535 : Int)) = true := by simp; omega
            clear hr hd hdr HP hle
            go_wp2_with (go_at_call 9; refine CD.out.mono ?_; rintro e W ⟨rfl, hb1⟩)
            obtain ⟨HB2, HG2, HV2, HY2, h0, hf, HV3, HY3, HB3, HG3, hY⟩ := after hb1
            clear hY after hb1
            go_wp2
            go_roundw
            case rel => exact ⟨pos + d, m - d, l, c + 1, cp - d, ap', by omega, by omega, rfl, hap', rfl, by omega, by omega, HP2, HV2, HY2, HG2.out, HB2.out⟩
            case measure => show m - d < m; omega
    · have h1 := HVr.out.cell (at1 l c0)
      have hf := HVr.out.free
      have HB := Lib.hid hb
      clear hb hap
      go_wp2
      go_end0
      have e := HP.out
      rw [runes_end (by omega)] at e
      rw [← e]
      exact ⟨rfl, HVr.out.set 1 _, HB.out.setCell (Nat.le_refl _) _⟩
end Go.Proofs.YtnmielbjdadggaaDoor
