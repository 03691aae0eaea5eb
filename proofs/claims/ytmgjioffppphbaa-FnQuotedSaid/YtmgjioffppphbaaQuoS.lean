/- spec.ReadString reads a quoted text back. -/
import Derived.Test.YtmgjioffppphbaaQuoF
import Derived.Laws.Cover4
import Derived.Deep.Cut
namespace Go.Proofs.Ytmgjioffppphbaa
open Go.RowKit
set_option linter.unusedVariables false
set_option linter.unusedSimpArgs false
theorem at_num {Q : ByteArray} {i b : Nat} (h : (nums Q)[i]? = some b) : ∃ hi : i < Q.size, (Q[i]'hi).toNat = b := by
  have hi : i < Q.size := by rw [← nums_len]; exact (List.getElem?_eq_some_iff.1 h).1
  refine ⟨hi, ?_⟩
  have := nums_at Q i hi
  rw [h] at this
  exact (Option.some.inj this).symm
theorem inner_of {q : ByteArray} {l : List Nat} (h : nums q = 34 :: (l ++ [34])) : q.size = l.length + 2 ∧ nums (q.extract 1 (q.size - 1)) = l ∧ (nums q)[0]? = some 34 ∧ (nums q)[q.size - 1]? = some 34 := by
  have h1 : q.size = l.length + 2 := by rw [← nums_len, h]; simp
  refine ⟨h1, ?_, by rw [h]; rfl, ?_⟩
  · rw [extract_nums, h, h1]
    simp
  · rw [h, h1]
    show (34 :: (l ++ [34]))[l.length + 1]? = some 34
    simp
theorem heap_at_new (w : World) (o : Obj) (k : Nat) (h : k = w.heap.size) : (w.alloc o).heap[k]? = some o := by subst h; exact heap_alloc_new w o
theorem Out.size {s X : ByteArray} {p : Nat} (h : Out s X p) : X.size ≤ s.size := by
  unfold Out at h
  have := congrArg List.length h
  rw [nums_len, List.length_take, nums_len] at this
  omega
theorem drop_at {Q : ByteArray} {i j b : Nat} {l : List Nat} (h : (nums Q).drop i = l) (hb : l[j]? = some b) : (nums Q)[i + j]? = some b := by
  rw [← hb, ← h, List.getElem?_drop]
theorem sign_low {s : ByteArray} {p r n : Nat} (h : Sign s p r n) (hr : r < 128) : n = 1 ∧ part s p n = [r] ∧ (nums s)[p]? = some r := by
  rcases h.kind with ⟨h1, _, h2⟩ | ⟨_, h1, _⟩
  · refine ⟨h1, h2, ?_⟩
    subst h1
    have := congrArg (fun l => l[0]?) h2
    simpa [part, List.getElem?_take, List.getElem?_drop] using this
  · omega
theorem vv_eq (r : Nat) (h : r ≤ 65535) : vv (r / 4096 % 16) (r / 256 % 16) (r / 16 % 16) (r % 16) 4 = r := by
  have a1 : r / 4096 % 16 = r / 4096 := by omega
  have a2 : 16 * (r / 4096) + r / 256 % 16 = r / 256 := by omega
  have a3 : 16 * (r / 256) + r / 16 % 16 = r / 16 := by omega
  have a4 : 16 * (r / 16) + r % 16 = r := by omega
  simp only [vv]
  rw [a1, a2, a3, a4]
theorem esc_bmp {r : Nat} (h : r ≠ 8 ∧ r ≠ 12 ∧ r ≠ 10 ∧ r ≠ 13 ∧ r ≠ 9 ∧ r ≠ 92 ∧ r ≠ 34) (hb : r ≤ 65535) : esc r = u4 r := by
  unfold esc
  rw [if_neg (by omega), if_neg (by omega), if_neg (by omega), if_neg (by omega), if_neg (by omega), if_neg (by omega), if_neg (by omega), if_pos hb]
theorem esc_far {r : Nat} (hb : 65536 ≤ r) : esc r = u4 (55296 + (r - 65536) / 1024) ++ u4 (56320 + (r - 65536) % 1024) := by
  have hne : ∀ k, k < 65536 → ¬ r = k := fun k hk e => by omega
  unfold esc
  rw [if_neg (hne 8 (by decide)), if_neg (hne 12 (by decide)), if_neg (hne 10 (by decide)), if_neg (hne 13 (by decide)), if_neg (hne 9 (by decide)), if_neg (hne 92 (by decide)), if_neg (hne 34 (by decide)), if_neg (by omega)]
theorem four_u {B k r : Nat} {Q : ByteArray} {w : World} {l : List Nat} (hq : w.cell? ⟨B, 0, none⟩ = some (.string Q)) (hsz : Q.size ≤ 100000) (hr : r ≤ 65535) (h : (nums Q).drop k = u4 r ++ l) :
    Calls Try.prog 8 #[.int .i64 ((k : Int) + 1 + 1), .pointer (some ⟨B, 0, none⟩)] w fun e w' => e = .returned (.tuple #[.int .i32 (r : Int), .bool true]) ∧ Below w.heap.size w w' := by
  have hk : (k + 5) < Q.size := by
    obtain ⟨h5, _⟩ := at_num (drop_at (j := 5) h rfl)
    exact h5
  have := four_any B (k + 2) (r / 4096 % 16) (r / 256 % 16) (r / 16 % 16) (r % 16) Q w hq (by omega) hsz (by omega) (by omega) (by omega) (by omega) (drop_at (j := 2) h rfl) (drop_at (j := 3) h rfl) (drop_at (j := 4) h rfl) (drop_at (j := 5) h rfl)
  rw [vv_eq r hr, show ((k + 2 : Nat) : Int) = (k : Int) + 1 + 1 by omega] at this
  exact this
theorem sign_text {s : ByteArray} {p r n : Nat} (h : Sign s p r n) : ∃ Y : ByteArray, nums Y = part s p n ∧ Y.size ≤ 4 ∧ ∀ W : World, (convert 21 9 (.int .i32 (r : Int))).run Try.prog W = .ok (.string Y) W :=
  ⟨Utf8.encode (r : Int), h.enc, encode_size_le _, fun W => run_convert_int_string W 21 9 .i32 _ (by kernel_rfl) Try.underlying9⟩
def ReadTold (s : ByteArray) (w : World) (e : Ending) (w' : World) : Prop := e = .returned (.tuple #[.string s, .bool true]) ∧ Below w.heap.size w w'
set_option maxRecDepth 1000000 in
set_option maxHeartbeats 8000000 in
theorem read_any (s q : ByteArray) (a : Bool) (w : World) (hq : nums q = 34 :: (escFrom s a 0 ++ [34])) (hg : Good s 0) (hs : s.size ≤ 300) : Calls Try.prog 6 #[.string q] w (ReadTold s w) := by
  obtain ⟨hsz, hin, hf, hla⟩ := inner_of hq
  have hlen := escFrom_len (a := a) s.size 0 (by omega) (Nat.zero_le _) hg
  obtain ⟨z0, b0⟩ := at_num hf
  obtain ⟨z1, b1⟩ := at_num hla
  have t0 : decide ((q.size : Int) < 2) = false := by simp; omega
  have hR := Lib.hid (rd_start hin hg)
  have hQs : (q.extract 1 (q.size - 1)).size = q.size - 2 := by simp; omega
  have hq2 : 2 ≤ q.size := by omega
  have hq3 : q.size ≤ 5000 := by omega
  have HQS := Lib.hid hQs
  clear hq hin hf hla hlen hsz hQs
  go_enter Try.func6, Try.ntmps6
  go_wp2_with fail
  generalize q.extract 1 (q.size - 1) = Q at *
  have hQs : Q.size ≤ 5000 := by have := HQS.out; omega
  clear HQS z0 b0 z1 b1
  go_loopw [4, 6] (fun ov iv W => ∃ (X : ByteArray) (i p e : Nat), i ≤ Q.size ∧ iv = .int .i64 i ∧ ov = .string X ∧ Hid (Rd s a Q i p e) ∧ Hid (Out s X p) ∧ Hid (W.heap[w.heap.size]? = some (.cells #[.string Q] 9 (0, 0))) ∧ Hid (Below w.heap.size w W)) (fun _ iv _ => Q.size - (intOf iv).toNat)
  case atStart => exact ⟨_, 0, 0, 0, Nat.zero_le _, rfl, rfl, hR, Lib.hid (by unfold Out; simp [nums]), Lib.hid (heap_at_new w _ _ rfl), Lib.hid ((Below.refl _ w).alloc (Nat.le_refl _) _)⟩
  case round =>
    obtain ⟨X, i, p, e, hiQ, rfl, rfl, HR, HO, HW, HB⟩ := hrel
    have cB := cell_of_one HW.out
    have fB := free_of_one HW.out
    have hXs : X.size ≤ 300 := Nat.le_trans HO.out.size hs
    by_cases hi : i < Q.size
    · rcases rd_cases HR.out hi with ⟨b, e', hb, hpl, hsb, hps, hR2⟩ | ⟨r, n, hS, hc, hl, hG⟩
      · obtain ⟨hi', eb⟩ := at_num hb
        have t1 : decide ((b : Int) < 32) = false := by have := hpl.1; simp; omega
        have t2 : ((b : Int) == 34) = false := by have := hpl.2.1; simp; omega
        have t3 : ((b : Int) != 92) = true := by have := hpl.2.2; simp; omega
        have HO2 := Lib.hid (HO.out.plain hb hsb hi)
        have HR2 := Lib.hid hR2
        clear hb hpl hsb hps hR2
        go_wp2_with fail
        go_roundw
        case rel => exact ⟨_, i + 1, p + 1, e', by omega, by go_num, rfl, HR2, HO2, HW, HB⟩
        case measure => simp [intOf]; omega
      · rcases (show r = 8 ∨ r = 12 ∨ r = 10 ∨ r = 13 ∨ r = 9 ∨ r = 92 ∨ r = 34 ∨ (r ≠ 8 ∧ r ≠ 12 ∧ r ≠ 10 ∧ r ≠ 13 ∧ r ≠ 9 ∧ r ≠ 92 ∧ r ≠ 34) by omega) with rfl | rfl | rfl | rfl | rfl | rfl | rfl | hrest
        · have E : esc 8 = [92, 98] := by decide
          rw [E] at hl
          obtain ⟨h0, eb0⟩ := at_num (i := i) (drop_at (j := 0) hl rfl)
          obtain ⟨h1, eb1⟩ := at_num (drop_at (j := 1) hl rfl)
          obtain ⟨rfl, hp1, _⟩ := sign_low hS (by omega)
          have HO2 : Hid (Out s (X ++ ⟨#[8]⟩) (p + 1)) := Lib.hid (HO.out.sign hS (by rw [hp1]; rfl))
          have HR2 := Lib.hid (rd_after (k := 2) hS (by rw [E]; exact hl) hG (by decide))
          clear hl hS hG hc hp1 E
          go_wp2_with fail
          go_roundw
          case rel => exact ⟨_, i + 2, p + 1, p + 1, by omega, by go_num, rfl, HR2, HO2, HW, HB⟩
          case measure => simp [intOf]; omega
        · have E : esc 12 = [92, 102] := by decide
          rw [E] at hl
          obtain ⟨h0, eb0⟩ := at_num (i := i) (drop_at (j := 0) hl rfl)
          obtain ⟨h1, eb1⟩ := at_num (drop_at (j := 1) hl rfl)
          obtain ⟨rfl, hp1, _⟩ := sign_low hS (by omega)
          have HO2 : Hid (Out s (X ++ ⟨#[12]⟩) (p + 1)) := Lib.hid (HO.out.sign hS (by rw [hp1]; rfl))
          have HR2 := Lib.hid (rd_after (k := 2) hS (by rw [E]; exact hl) hG (by decide))
          clear hl hS hG hc hp1 E
          go_wp2_with fail
          go_roundw
          case rel => exact ⟨_, i + 2, p + 1, p + 1, by omega, by go_num, rfl, HR2, HO2, HW, HB⟩
          case measure => simp [intOf]; omega
        · have E : esc 10 = [92, 110] := by decide
          rw [E] at hl
          obtain ⟨h0, eb0⟩ := at_num (i := i) (drop_at (j := 0) hl rfl)
          obtain ⟨h1, eb1⟩ := at_num (drop_at (j := 1) hl rfl)
          obtain ⟨rfl, hp1, _⟩ := sign_low hS (by omega)
          have HO2 : Hid (Out s (X ++ ⟨#[10]⟩) (p + 1)) := Lib.hid (HO.out.sign hS (by rw [hp1]; rfl))
          have HR2 := Lib.hid (rd_after (k := 2) hS (by rw [E]; exact hl) hG (by decide))
          clear hl hS hG hc hp1 E
          go_wp2_with fail
          go_roundw
          case rel => exact ⟨_, i + 2, p + 1, p + 1, by omega, by go_num, rfl, HR2, HO2, HW, HB⟩
          case measure => simp [intOf]; omega
        · have E : esc 13 = [92, 114] := by decide
          rw [E] at hl
          obtain ⟨h0, eb0⟩ := at_num (i := i) (drop_at (j := 0) hl rfl)
          obtain ⟨h1, eb1⟩ := at_num (drop_at (j := 1) hl rfl)
          obtain ⟨rfl, hp1, _⟩ := sign_low hS (by omega)
          have HO2 : Hid (Out s (X ++ ⟨#[13]⟩) (p + 1)) := Lib.hid (HO.out.sign hS (by rw [hp1]; rfl))
          have HR2 := Lib.hid (rd_after (k := 2) hS (by rw [E]; exact hl) hG (by decide))
          clear hl hS hG hc hp1 E
          go_wp2_with fail
          go_roundw
          case rel => exact ⟨_, i + 2, p + 1, p + 1, by omega, by go_num, rfl, HR2, HO2, HW, HB⟩
          case measure => simp [intOf]; omega
        · have E : esc 9 = [92, 116] := by decide
          rw [E] at hl
          obtain ⟨h0, eb0⟩ := at_num (i := i) (drop_at (j := 0) hl rfl)
          obtain ⟨h1, eb1⟩ := at_num (drop_at (j := 1) hl rfl)
          obtain ⟨rfl, hp1, _⟩ := sign_low hS (by omega)
          have HO2 : Hid (Out s (X ++ ⟨#[9]⟩) (p + 1)) := Lib.hid (HO.out.sign hS (by rw [hp1]; rfl))
          have HR2 := Lib.hid (rd_after (k := 2) hS (by rw [E]; exact hl) hG (by decide))
          clear hl hS hG hc hp1 E
          go_wp2_with fail
          go_roundw
          case rel => exact ⟨_, i + 2, p + 1, p + 1, by omega, by go_num, rfl, HR2, HO2, HW, HB⟩
          case measure => simp [intOf]; omega
        · have E : esc 92 = [92, 92] := by decide
          rw [E] at hl
          obtain ⟨h0, eb0⟩ := at_num (i := i) (drop_at (j := 0) hl rfl)
          obtain ⟨h1, eb1⟩ := at_num (drop_at (j := 1) hl rfl)
          obtain ⟨rfl, hp1, hp2⟩ := sign_low hS (by omega)
          have HO2 := Lib.hid (HO.out.plain (i := i + 1) (drop_at (j := 1) hl rfl) hp2 h1)
          have HR2 := Lib.hid (rd_after (k := 2) hS (by rw [E]; exact hl) hG (by decide))
          clear hl hS hG hc hp1 hp2 E
          go_wp2_with fail
          go_roundw
          case rel => exact ⟨_, i + 2, p + 1, p + 1, by omega, by go_num, rfl, HR2, HO2, HW, HB⟩
          case measure => simp [intOf]; omega
        · have E : esc 34 = [92, 34] := by decide
          rw [E] at hl
          obtain ⟨h0, eb0⟩ := at_num (i := i) (drop_at (j := 0) hl rfl)
          obtain ⟨h1, eb1⟩ := at_num (drop_at (j := 1) hl rfl)
          obtain ⟨rfl, hp1, hp2⟩ := sign_low hS (by omega)
          have HO2 := Lib.hid (HO.out.plain (i := i + 1) (drop_at (j := 1) hl rfl) hp2 h1)
          have HR2 := Lib.hid (rd_after (k := 2) hS (by rw [E]; exact hl) hG (by decide))
          clear hl hS hG hc hp1 hp2 E
          go_wp2_with fail
          go_roundw
          case rel => exact ⟨_, i + 2, p + 1, p + 1, by omega, by go_num, rfl, HR2, HO2, HW, HB⟩
          case measure => simp [intOf]; omega
        · have hHB : ∀ (w1 : World), Below wr.heap.size wr w1 → Hid (w1.heap[w.heap.size]? = some (.cells #[.string Q] 9 (0, 0))) ∧ Hid (Below w.heap.size w w1) := fun w1 hb1 =>
            ⟨Lib.hid ((hb1.block _ (Array.getElem?_eq_some_iff.1 HW.out).1).trans HW.out), Lib.hid (HB.out.trans (hb1.mono HB.out.size))⟩
          have HHB := Lib.hid hHB
          obtain ⟨Y, hY, hes, hcv⟩ := sign_text hS
          clear hHB
          by_cases hbig : r ≤ 65535
          · have E := esc_bmp hrest hbig
            rw [E] at hl
            obtain ⟨h0, eb0⟩ := at_num (i := i) (drop_at (j := 0) hl rfl)
            obtain ⟨h1, eb1⟩ := at_num (drop_at (j := 1) hl rfl)
            obtain ⟨h5, -⟩ := at_num (drop_at (j := 5) hl rfl)
            have C := Lib.hid (four_u cB (by omega) hbig hl)
            have HO2 := Lib.hid (HO.out.sign hS hY)
            have HR2 := Lib.hid (rd_after (k := 6) hS (by rw [E]; exact hl) hG (by rw [E]; rfl))
            have hval := hS.val
            have hn := hS.wide
            clear hl hS hG hc E hrest hY
            by_cases hlow : r < 55296
            · have t1 : decide ((55296 : Int) ≤ (r : Int)) = false := by simp; omega
              clear hlow hval
              go_wp2_with (go_at_call 8; refine C.out.mono ?_; rintro e w1 ⟨rfl, hb1⟩; have HW1 := (HHB.out _ hb1).1; have HB1 := (HHB.out _ hb1).2; have cB1 := cell_of_one HW1.out; clear hb1)
              go_roundw
              case rel => exact ⟨_, i + 6, p + n, p + n, by omega, by go_num, rfl, HR2, HO2, HW1, HB1⟩
              case measure => simp [intOf]; omega
            · have T1 : Hid ((57344 : Int) ≤ (r : Int)) := Lib.hid (by omega)
              clear hlow hval hbig
              go_upto_region 34 with (go_at_call 8; refine C.out.mono ?_; rintro e w1 ⟨rfl, hb1⟩; have HW1 := (HHB.out _ hb1).1; have HB1 := (HHB.out _ hb1).2; have cB1 := cell_of_one HW1.out; clear hb1)
              have t1 : decide ((55296 : Int) ≤ (r : Int)) = true := by have := T1.out; simp; omega
              have t2 : decide ((r : Int) < 56320) = false := by have := T1.out; simp; omega
              have t3 : decide ((r : Int) < 57344) = false := by have := T1.out; simp; omega
              go_upto_region 40 with fail
              go_upto_region 42 with fail
              go_upto_region 8 with fail
              clear t1 t2 t3
              go_wp2_with fail
              go_roundw
              case rel => exact ⟨_, i + 6, p + n, p + n, by omega, by go_num, rfl, HR2, HO2, HW1, HB1⟩
              case measure => simp [intOf]; omega
          · obtain ⟨h, hh⟩ : ∃ h, h = 55296 + (r - 65536) / 1024 := ⟨_, rfl⟩
            obtain ⟨l, hl2⟩ : ∃ l, l = 56320 + (r - 65536) % 1024 := ⟨_, rfl⟩
            have E := esc_far (show 65536 ≤ r by omega)
            rw [← hh, ← hl2] at E
            have hval := hS.val
            have hh1 : 55296 ≤ h ∧ h < 56320 := by omega
            have hl1 : 56320 ≤ l ∧ l ≤ 57343 := by omega
            have hrr : Hid ((65536 : Int) ≤ (r : Int) ∧ (65536 : Int) + ((h : Int) - 55296) * 1024 + (l : Int) - 56320 = (r : Int)) := Lib.hid (by omega)
            rw [E, List.append_assoc] at hl
            obtain ⟨h0, eb0⟩ := at_num (i := i) (drop_at (j := 0) hl rfl)
            obtain ⟨h1, eb1⟩ := at_num (drop_at (j := 1) hl rfl)
            have hl' : (nums Q).drop (i + 6) = u4 l ++ escFrom s a (p + n) := by
              rw [← List.drop_drop, hl]; rfl
            obtain ⟨h6, eb6⟩ := at_num (i := i + 6) (drop_at (j := 0) hl' rfl)
            obtain ⟨h7, eb7⟩ := at_num (i := i + 7) (drop_at (j := 1) hl' rfl)
            obtain ⟨h11, -⟩ := at_num (i := i + 11) (drop_at (j := 5) hl' rfl)
            have C := Lib.hid (four_u cB (by omega) (by omega) hl)
            have C2 := Lib.hid (fun (W : World) (hc : W.cell? ⟨w.heap.size, 0, none⟩ = some (.string Q)) => four_u hc (by omega) (show l ≤ 65535 by omega) hl')
            rw [show (((i + 6 : Nat) : Int) + 1 + 1) = (i : Int) + 1 + 4 + 3 by omega] at C2
            have HO2 := Lib.hid (HO.out.sign hS hY)
            have HR2 := Lib.hid (rd_after (k := 12) hS (by rw [E, List.append_assoc]; exact hl) hG (by rw [E]; rfl))
            have hn := hS.wide
            have HH1 := Lib.hid hh1
            have HL1 := Lib.hid hl1
            clear hl hl' hS hG hc E hrest hY hh hl2 hval hbig hh1 hl1
            go_upto_region 34 with (go_at_call 8; refine C.out.mono ?_; rintro e w1 ⟨rfl, hb1⟩; have HW1 := (HHB.out _ hb1).1; have HB1 := (HHB.out _ hb1).2; have cB1 := cell_of_one HW1.out; clear hb1)
            have t1 : decide ((55296 : Int) ≤ (h : Int)) = true := by have := HH1.out; simp; omega
            have t2 : decide ((h : Int) < 56320) = true := by have := HH1.out; simp; omega
            go_upto_region 35 with fail
            have t3 : decide ((l : Int) < 56320) = false := by have := HL1.out; simp; omega
            have t4 : decide ((57343 : Int) < (l : Int)) = false := by have := HL1.out; simp; omega
            have HHB1 : Hid (∀ (w2 : World), Below w1.heap.size w1 w2 → Hid (w2.heap[w.heap.size]? = some (.cells #[.string Q] 9 (0, 0))) ∧ Hid (Below w.heap.size w w2)) := Lib.hid fun w2 hb1 =>
              ⟨Lib.hid ((hb1.block _ (Array.getElem?_eq_some_iff.1 HW1.out).1).trans HW1.out), Lib.hid (HB1.out.trans (hb1.mono HB1.out.size))⟩
            go_upto_region 38 with (go_at_call 8; refine (C2.out _ cB1).mono ?_; rintro e w2 ⟨rfl, hb2⟩; have HW2 := (HHB1.out _ hb2).1; have HB2 := (HHB1.out _ hb2).2; have cB2 := cell_of_one HW2.out; clear hb2)
            clear t1 t2 t3 t4
            have m1 := HH1.out
            have m2 := HL1.out
            go_upto_region 40 with fail
            rw [hrr.out.2]
            clear m1 m2
            have t5 : decide ((55296 : Int) ≤ (r : Int)) = true := by have := hrr.out.1; simp; omega
            have t6 : decide ((r : Int) < 57344) = false := by have := hrr.out.1; simp; omega
            go_upto_region 42 with fail
            go_upto_region 8 with fail
            clear t5 t6
            go_wp2_with fail
            go_roundw
            case rel => exact ⟨_, i + 12, p + n, p + n, by omega, by go_num, rfl, HR2, HO2, HW2, HB2⟩
            case measure => simp [intOf]; omega
    · have hp := rd_end HR.out hi
      rw [hp] at HO
      obtain rfl := HO.out.all
      clear hp HO
      go_wp2_with fail
      go_ret2
      exact ⟨rfl, HB.out⟩
end Go.Proofs.Ytmgjioffppphbaa
