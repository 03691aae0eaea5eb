/- What (*sourcemap.SourceMap).Find tells of mappings in their order. -/
import Derived.Test.YtfpfpdjnmfiffaaFoundL
import Derived.OwnWalk
import Derived.LoopN
namespace Go.Proofs.Ytfpfpdjnmfiffaa
open Go.RowKit
set_option linter.unusedVariables false
set_option linter.unusedSimpArgs false

/-- The elements' cells, six each. -/
def Cells6 (w : World) (g off : Nat) (l : List Mp) (f : Mp → List Value) : Prop := ∀ i (hi : i < l.length) (j : Nat) (u : Value), (f (l[i]))[j]? = some u → w.cell? ⟨g, off + i * 6 + j, none⟩ = some u
theorem Cells6.keep {w w' : World} {B g off : Nat} {l : List Mp} {f : Mp → List Value} (h : Cells6 w g off l f) (hg : g < B) (hb : Below B w w') : Cells6 w' g off l f :=
  fun i hi j u hu => (hb.cell (p := ⟨g, off + i * 6 + j, none⟩) hg).trans (h i hi j u hu)
theorem find_ret {o : Option Nat} {n : Nat} (h : o = some n) : True := trivial
/-- What the search tells. -/
def foundAt (g : Nat) : Option Nat → Value
  | none => .pointer none
  | some i => .pointer (some ⟨g, i * 6, none⟩)
theorem ret_found {g : Nat} {o p : Option Nat} (h : o = p) : Ending.returned (foundAt g o) = .returned (foundAt g p) := by rw [h]

set_option maxRecDepth 100000 in
set_option maxHeartbeats 4000000 in
theorem find_some (l : List Mp) (line col : Int) (o : Option Nat) (B g cap n : Nat) (z0 z1 z3 : Value) (w : World) (hl : l.length = n) (hn : n ≤ 1000) (hB : w.heap[B]? = some (.cells #[z0, z1, .slice (some ⟨g, 0, none⟩) n cap, z3] 63)) (hg : g < w.heap.size)
    (hr : Rising l l.length) (hf : AllFine l l.length) (ho : Last l line col l.length o) (hL : 0 ≤ line ∧ line ≤ 1000) (hC : 0 ≤ col ∧ col ≤ 10000) (h : Cells6 w g 0 l Mp.scells) :
    Calls Try.prog 26 #[.pointer (some ⟨B, 0, none⟩), .int .i32 line, .int .i32 col] w fun e w' => e = .returned (foundAt g o) ∧ Below w.heap.size w w' := by
  have c2 : w.cell? ⟨B, 2, none⟩ = some (.slice (some ⟨g, 0, none⟩) n cap) := by rw [Lib.cell_of_heap hB]; rfl
  have HR := Lib.hid hr
  have HF := Lib.hid hf
  have HO := Lib.hid ho
  have HC := Lib.hid h
  have HL := Lib.hid hl
  clear hB hr hf ho h hl
  go_enter Try.func26, Try.ntmps26
  go_wp2
  go_loopw [8, 9] (fun c i wr => ∃ a b : Nat, c = .int .i64 a ∧ i = .int .i64 b ∧ a ≤ n ∧ b ≤ n ∧ Hid (Cut l line col b a) ∧ Below w.heap.size w wr) (fun c _ _ => (intOf c).toNat)
  case atStart => exact ⟨n, 0, rfl, rfl, Nat.le_refl _, Nat.zero_le _, by have := Cut.start l line col; rw [HL.out] at this; exact this, Below.refl _ _⟩
  case round =>
    obtain ⟨a, b, rfl, rfl, ha, hb2, HK, hb⟩ := hrel
    by_cases h0 : 0 < a
    · have hml : b + a / 2 < l.length := by have := HK.out.1; omega
      have hmn : b + a / 2 < n := by rw [HL.out] at hml; exact hml
      have hc := fun j u => (HC.out.keep hg hb) (b + a / 2) hml j u
      have hfm := HF.out (b + a / 2) hml hml
      obtain ⟨q, hq⟩ : ∃ q, q = l[b + a / 2] := ⟨_, rfl⟩
      rw [← hq] at hc hfm
      have hup := fun (hm : q.le line col) => HK.out.up HR.out (m := b + a / 2) (by omega) (by omega) hml (by rw [← hq]; exact hm)
      have hdn := fun (hm : ¬ q.le line col) => HK.out.down HR.out (m := b + a / 2) (by omega) (by omega) hml (by rw [← hq]; exact hm)
      clear hq
      obtain ⟨x0, x1, x2, x3, x4, x5⟩ := q
      have c0 : wr.cell? ⟨g, (b + a / 2) * 6, none⟩ = some (.int .i32 x0) := by have h := hc 0 _ rfl; simpa using h
      have c1 : wr.cell? ⟨g, (b + a / 2) * 6 + 1, none⟩ = some (.int .i32 x1) := by have h := hc 1 _ rfl; simpa using h
      have c2 : wr.cell? ⟨g, (b + a / 2) * 6 + 2, none⟩ = some (.int .i32 x2) := by have h := hc 2 _ rfl; simpa using h
      have c3 : wr.cell? ⟨g, (b + a / 2) * 6 + 3, none⟩ = some (.int .i32 x3) := by have h := hc 3 _ rfl; simpa using h
      have c4 : wr.cell? ⟨g, (b + a / 2) * 6 + 4, none⟩ = some (.int .i32 x4) := by have h := hc 4 _ rfl; simpa using h
      have c5 : wr.cell? ⟨g, (b + a / 2) * 6 + 5, none⟩ = some (.int .u32 (Mp.name ⟨x0, x1, x2, x3, x4, x5⟩)) := by have h := hc 5 _ rfl; simpa using h
      have y0 : 0 ≤ x0 ∧ x0 ≤ 1000 := ⟨hfm.l0, hfm.h0⟩
      have y1 : 0 ≤ x1 ∧ x1 ≤ 10000 := ⟨hfm.l1, hfm.h1⟩
      clear hc hfm
      generalize Mp.name _ = nm at c5
      by_cases q1 : x0 < line
      · have t1 : decide (x0 < line) = true := by simpa using q1
        have HU := Lib.hid (hup (.inl q1))
        clear hup hdn
        go_wp2_with fail
        go_roundw
        case rel => exact ⟨b + a - (b + a / 2 + 1), b + a / 2 + 1, by go_num, by go_num, by omega, by omega, HU, hb.alloc hb.size _⟩
        case measure => simp [intOf]; omega
      · have t1 : decide (x0 < line) = false := by simpa using q1
        by_cases q2 : x0 = line
        · subst q2
          by_cases q3 : x1 ≤ col
          · have t3 : decide (x1 ≤ col) = true := by simpa using q3
            have HU := Lib.hid (hup (.inr ⟨rfl, q3⟩))
            clear hup hdn
            go_wp2_with fail
            go_roundw
            case rel => exact ⟨b + a - (b + a / 2 + 1), b + a / 2 + 1, by go_num, by go_num, by omega, by omega, HU, hb.alloc hb.size _⟩
            case measure => simp [intOf]; omega
          · have t3 : decide (x1 ≤ col) = false := by simpa using q3
            have HU := Lib.hid (hdn (by unfold Mp.le; simp; omega))
            clear hup hdn
            go_wp2_with fail
            go_roundw
            case rel => exact ⟨b + a / 2 - b, b, by go_num, by go_num, by omega, by omega, HU, hb.alloc hb.size _⟩
            case measure => simp [intOf]; omega
        · have t2 : (x0 == line) = false := by simpa using q2
          have HU := Lib.hid (hdn (by unfold Mp.le; simp; omega))
          clear hup hdn
          go_wp2_with fail
          go_roundw
          case rel => exact ⟨b + a / 2 - b, b, by go_num, by go_num, by omega, by omega, HU, hb.alloc hb.size _⟩
          case measure => simp [intOf]; omega
    · obtain rfl : a = 0 := by omega
      rcases last_of_cut HR.out HK.out HO.out with ⟨h1, h2⟩ | ⟨h1, h2, hi, h3⟩
      · rcases h2 with h2 | ⟨hi, h2⟩
        · subst h2
          go_wp2
          go_ret
          exact ⟨ret_found h1.symm, hb⟩
        · by_cases hb0 : 0 < b
          · have c0 : wr.cell? ⟨g, (b - 1) * 6, none⟩ = some (.int .i32 (l[b - 1]).a0) := by have h := (HC.out.keep hg hb) (b - 1) hi 0 _ rfl; simpa using h
            obtain ⟨x, hx⟩ : ∃ x, x = (l[b - 1]).a0 := ⟨_, rfl⟩
            rw [← hx] at c0 h2
            have t2 : (x == line) = false := by simpa using h2
            have hfm := HF.out (b - 1) hi hi
            have y1 := hfm.l0
            have y2 := hfm.h0
            rw [← hx] at y1 y2
            clear hx hfm
            have hbl : b - 1 < n := by omega
            go_wp2
            go_ret
            exact ⟨ret_found h1.symm, hb⟩
          · obtain rfl : b = 0 := by omega
            go_wp2
            go_ret
            exact ⟨ret_found h1.symm, hb⟩
      · have c0 : wr.cell? ⟨g, (b - 1) * 6, none⟩ = some (.int .i32 (l[b - 1]).a0) := by have h := (HC.out.keep hg hb) (b - 1) hi 0 _ rfl; simpa using h
        rw [h3] at c0
        have hbl : b - 1 < n := by omega
        go_wp2
        go_ret
        exact ⟨ret_found h1.symm, hb⟩

set_option maxRecDepth 100000 in
set_option maxHeartbeats 1000000 in
theorem find_nil (line col : Int) (B : Nat) (z0 z1 z3 : Value) (w : World) (hB : w.heap[B]? = some (.cells #[z0, z1, .slice none 0 0, z3] 63)) :
    Calls Try.prog 26 #[.pointer (some ⟨B, 0, none⟩), .int .i32 line, .int .i32 col] w fun e w' => e = .returned (foundAt 0 none) ∧ w = w' := by
  have c2 : w.cell? ⟨B, 2, none⟩ = some (.slice none 0 0) := by rw [Lib.cell_of_heap hB]; rfl
  clear hB
  go_enter Try.func26, Try.ntmps26
  go_wp2
  refine wp_loop_rounds 1 ?_
  rw [rounds_succ]
  go_wp2
  go_ret
  exact ⟨rfl, rfl⟩
theorem xor32 (x : Int) (h : 0 ≤ x ∧ x ≤ 4294967295) : bits .xor .u32 IntKind.u32.max x = 4294967295 - x := by
  obtain ⟨n, rfl⟩ := Int.eq_ofNat_of_zero_le h.1
  show IntKind.u32.wrap ((BitVec.ofInt 32 (4294967295 : Int) ^^^ BitVec.ofInt 32 (n : Int)).toNat : Int) = _
  rw [show BitVec.ofInt 32 (4294967295 : Int) = BitVec.allOnes 32 by decide, BitVec.ofInt_natCast, BitVec.allOnes_xor, BitVec.toNat_not, BitVec.toNat_ofNat, Nat.mod_eq_of_lt (by omega)]
  simp [IntKind.wrap, IntKind.bits, IntKind.signed]
  omega
theorem infoIndex : (Try.prog.info? 65).map (·.size) = some 1 := by kernel_rfl
set_option maxRecDepth 100000 in
set_option maxHeartbeats 1000000 in
theorem index_any (x : Int) (hx : 0 ≤ x ∧ x ≤ 1000) (w : World) :
    Calls Try.prog 25 #[.int .u32 x] w fun e w' => e = .returned (.agg #[.int .u32 (4294967295 - x)]) ∧ w.alloc (.cells #[.int .u32 (4294967295 - x)] 65) = w' := by
  have hX := xor32 x (by omega)
  have hf : ¬ (IntKind.u32.signed = true) := by decide
  go_enter Try.func25, Try.ntmps25
  go_wp2
  (try simp only [Exit.inBlock, Exit.then])
  refine bodyPost_ret (v := .agg #[.int .u32 (4294967295 - x)]) (results_cell_row rfl _ _ w.heap.size 65 _ _ _ rfl (heap_alloc_new _ _) Try.underlying65 rfl infoIndex) rfl ⟨rfl, rfl⟩
set_option maxRecDepth 100000 in
set_option maxHeartbeats 1000000 in
theorem valid_any (x : Int) (b : Bool) (hx : (x != 0) = b) (w : World) :
    Calls Try.prog 27 #[.agg #[.int .u32 x]] w fun e w' => e = .returned (.bool b) ∧ w.alloc (.cells #[.int .u32 x] 65) = w' := by
  subst hx
  go_enter Try.func27, Try.ntmps27
  go_wp2
  go_ret
  exact ⟨rfl, rfl⟩
set_option maxRecDepth 100000 in
set_option maxHeartbeats 1000000 in
theorem get_any (x : Int) (hx : 0 ≤ x ∧ x ≤ 1000) (w : World) :
    Calls Try.prog 28 #[.agg #[.int .u32 (4294967295 - x)]] w fun e w' => e = .returned (.int .u32 x) ∧ w.alloc (.cells #[.int .u32 (4294967295 - x)] 65) = w' := by
  go_enter Try.func28, Try.ntmps28
  have hX : bits .xor .u32 IntKind.u32.max (4294967295 - x) = x := by rw [xor32 (4294967295 - x) (by omega)]; omega
  have hf : ¬ (IntKind.u32.signed = true) := by decide
  go_wp2
  go_ret
  exact ⟨rfl, rfl⟩
end Go.Proofs.Ytfpfpdjnmfiffaa
