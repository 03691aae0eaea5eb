/- EncodeStringAsPercentEscapedDataURL: a round of its second loop. -/
import Derived.Test.YtmfbnmjmgpafmaaDoorPctA
import Derived.Deep.Cut
namespace Go.Proofs.YtmfbnmjmgpafmaaDoor
open Go.RowKit
set_option linter.unusedVariables false
set_option linter.unusedSimpArgs false
/-- A block of the function's body, by its number. -/
def findBlock (n : Nat) : Code → Option Code
  | .block k c => if k = n then some c else findBlock n c
  | .seq a b => match findBlock n a with
    | some c => some c
    | none => findBlock n b
  | .loop c => findBlock n c
  | .scope c => findBlock n c
  | .cond _ a b => match findBlock n a with
    | some c => some c
    | none => findBlock n b
  | _ => none
def unLoop : Code → Code
  | .loop c => c
  | c => c
noncomputable def pctRound : Code := unLoop ((Tryd.f10.body.bind (findBlock 2)).getD .skip)
theorem low_sign {s : ByteArray} {p r n : Nat} (h : Sign s p r n) (hr : r < 128) : n = 1 := by
  rcases h.kind with ⟨h1, _, _⟩ | ⟨_, h1, _⟩
  · exact h1
  · omega
theorem ext_nums (s : ByteArray) (p e : Nat) : nums (s.extract p e) = part s p (e - p) := extract_nums s p e
theorem at_num {Q : ByteArray} {i b : Nat} (hi : i < Q.size) (h : (nums Q).getD i 0 = b) : (Q[i]'hi).toNat = b := by
  rw [← h, List.getD, nums_at Q i hi]; rfl
set_option maxRecDepth 1000000 in
set_option maxHeartbeats 16000000 in
theorem rnd_9 (Q : Exit → Act → World → Prop) (s : ByteArray) (W : World) (B T : Nat) (acc : List Nat) (i rs r n : Nat) (y0 y2 y3 y4 y5 y12 y13 y14 y15 y16 y17 y18 y19 y20 y21 y22 y23 y24 y25 y26 y27 y28 y29 y30 y31 y32 y33 y34 y35 y36 y37 y38 y39 y40 y41 y42 y43 y44 y45 y46 y47 y48 y49 y50 y51 y52 y53 y54 y55 y56 y57 y58 y59 y60 y61 y62 y63 y64 y65 y66 y67 y68 y69 y70 y71 y72 y73 y74 y75 y76 y77 y78 y79 y80 y81 y82 y83 y84 y85 y86 y87 y88 y89 y90 y91 y92 y93 y94 y95 y96 y97 y98 y99 y100 y101 y102 y103 y104 y105 y106 y107 y108 y109 y110 y111 y112 y113 y114 y115 y116 y117 y118 y119 y120 y121 y122 y123 y124 y125 y126 y127 y128 y129 y130 y131 y132 y133 y134 y135 y136 : Value) (HB : Hid (Bld B acc W)) (hB2 : 2 ≤ B) (HT : Hid (Lib.Utf8Tabs 0 1 W)) (hal : acc.length ≤ 10000) (hs : s.size ≤ 300) (hi : i < s.size) (hrs : rs ≤ i) (hS : Sign s i r n) (hr : r = 9) 
    (hK : ∀ (iv rv : Value) (w3 : World) (x13 x14 x45 x46 x47 x48 x49 x50 x51 x52 x53 x54 x55 x56 x57 x58 x59 x60 x61 x62 x63 x64 x65 x66 x67 x68 x69 x70 x71 x72 x73 x74 x75 x76 x77 x78 x79 x80 x81 x82 x83 x84 x85 x86 x87 x88 x89 x90 x91 x92 x93 x94 x95 x96 x97 x98 x99 x100 x101 x102 x103 x104 x105 x106 x107 x108 x109 x110 x111 x112 x113 x114 x115 x116 x117 x118 x119 x120 x121 x122 x123 x124 x125 x126 x127 x128 : Value), iv = .int .i64 ((i + 1 : Nat) : Int) → rv = .int .i64 ((i + 1 : Nat) : Int) → Hid (Bld B (acc ++ part s rs (i - rs) ++ [37, 48, 57]) w3) → Hid (Below B W w3) →
      Q .normal ⟨#[y0, .string s, y2, y3, y4, y5, .string ⟨#[48, 49, 50, 51, 52, 53, 54, 55, 56, 57, 65, 66, 67, 68, 69, 70]⟩, .pointer (some ⟨B, 0, none⟩), .int .i64 (s.size : Int), iv, rv, .int .i64 (T : Int), y12, x13, x14, y15, y16, y17, y18, y19, y20, y21, y22, y23, y24, y25, y26, y27, y28, y29, y30, y31, y32, y33, y34, y35, y36, y37, y38, y39, y40, y41, y42, y43, y44, x45, x46, x47, x48, x49, x50, x51, x52, x53, x54, x55, x56, x57, x58, x59, x60, x61, x62, x63, x64, x65, x66, x67, x68, x69, x70, x71, x72, x73, x74, x75, x76, x77, x78, x79, x80, x81, x82, x83, x84, x85, x86, x87, x88, x89, x90, x91, x92, x93, x94, x95, x96, x97, x98, x99, x100, x101, x102, x103, x104, x105, x106, x107, x108, x109, x110, x111, x112, x113, x114, x115, x116, x117, x118, x119, x120, x121, x122, x123, x124, x125, x126, x127, x128, y129, y130, y131, y132, y133, y134, y135, y136], []⟩ w3) :
    pctRound.wp Tryd.prog Q ⟨#[y0, .string s, y2, y3, y4, y5, .string ⟨#[48, 49, 50, 51, 52, 53, 54, 55, 56, 57, 65, 66, 67, 68, 69, 70]⟩, .pointer (some ⟨B, 0, none⟩), .int .i64 (s.size : Int), .int .i64 (i : Int), .int .i64 (rs : Int), .int .i64 (T : Int), y12, y13, y14, y15, y16, y17, y18, y19, y20, y21, y22, y23, y24, y25, y26, y27, y28, y29, y30, y31, y32, y33, y34, y35, y36, y37, y38, y39, y40, y41, y42, y43, y44, y45, y46, y47, y48, y49, y50, y51, y52, y53, y54, y55, y56, y57, y58, y59, y60, y61, y62, y63, y64, y65, y66, y67, y68, y69, y70, y71, y72, y73, y74, y75, y76, y77, y78, y79, y80, y81, y82, y83, y84, y85, y86, y87, y88, y89, y90, y91, y92, y93, y94, y95, y96, y97, y98, y99, y100, y101, y102, y103, y104, y105, y106, y107, y108, y109, y110, y111, y112, y113, y114, y115, y116, y117, y118, y119, y120, y121, y122, y123, y124, y125, y126, y127, y128, y129, y130, y131, y132, y133, y134, y135, y136], []⟩ W := by
  have HK := Lib.hid hK
  have C18 := Lib.hid (dec_at s i r n hS hi W HT.out)
  have hin := hS.inn
  have hwd := hS.wide
  have hBW : B < W.heap.size := HB.out.lt
  clear hK
  conv => arg 2; whnf
  subst hr
  obtain rfl := low_sign hS (by omega)
  clear hS
  have E37 : Hid ((37 : Int) = ((37 : Nat) : Int)) := Lib.hid rfl
  have E48 : Hid ((48 : Int) = ((48 : Nat) : Int)) := Lib.hid rfl
  have E57 : Hid ((57 : Int) = ((57 : Nat) : Int)) := Lib.hid rfl
  have xx0 : ((⟨#[48, 49, 50, 51, 52, 53, 54, 55, 56, 57, 65, 66, 67, 68, 69, 70]⟩ : ByteArray)[0]'(by decide)).toNat = 48 := rfl
  have xx9 : ((⟨#[48, 49, 50, 51, 52, 53, 54, 55, 56, 57, 65, 66, 67, 68, 69, 70]⟩ : ByteArray)[9]'(by decide)).toNat = 57 := rfl
  have hpl : (part s rs (i - rs)).length ≤ 300 := by rw [part_len (by omega)]; omega
  by_cases hri : rs < i
  · have hx1 : (s.extract rs i).size ≤ 1000000 := by simp; omega
    have HE := Lib.hid (ext_nums s rs i)
    go_wp2_with (first | (go_at_call 18; refine C18.out.mono ?_; rintro e w1 ⟨rfl, hb1⟩; have HB1 := Lib.hid (HB.out.below hb1); have HL1 : Hid (Below B W w1) := Lib.hid (hb1.mono (Nat.le_of_lt hBW)); clear hb1) | (go_at_call 16; refine (bld_string (s.extract rs i) HB1.out (by omega) hx1).mono ?_; rintro e w2 ⟨rfl, hq, hl⟩; have HB2 := Lib.hid hq; rw [HE.out] at HB2; have HL2 := Lib.hid (HL1.out.trans hl); clear hq hl) | (go_at_call 17; refine (bld_byte 57 _ (by rfl) HB5.out (by first | omega | (simp; omega))).mono ?_; rintro e w6 ⟨rfl, hq, hl⟩; have HB6 := Lib.hid hq; have HL6 := Lib.hid (HL5.out.trans hl); clear hq hl) | (go_at_call 17; refine (bld_byte 48 _ (by rfl) HB4.out (by first | omega | (simp; omega))).mono ?_; rintro e w5 ⟨rfl, hq, hl⟩; have HB5 := Lib.hid hq; have HL5 := Lib.hid (HL4.out.trans hl); clear hq hl) | (go_at_call 17; refine (bld_byte 37 _ (by rfl) HB2.out (by first | omega | (simp; omega))).mono ?_; rintro e w4 ⟨rfl, hq, hl⟩; have HB4 := Lib.hid hq; have HL4 := Lib.hid (HL2.out.trans hl); clear hq hl))
    exact HK.out _ _ _ _ _ _ _ _ _ _ _ _ _ _ _ _ _ _ _ _ _ _ _ _ _ _ _ _ _ _ _ _ _ _ _ _ _ _ _ _ _ _ _ _ _ _ _ _ _ _ _ _ _ _ _ _ _ _ _ _ _ _ _ _ _ _ _ _ _ _ _ _ _ _ _ _ _ _ _ _ _ _ _ _ _ _ _ _ _ (by go_num) (by go_num) (by simpa [List.append_assoc] using HB6) HL6
  · have t9 : decide ((rs : Int) < (i : Int)) = false := by simp; omega
    have hp0 : part s rs (i - rs) = [] := by rw [show i - rs = 0 by omega, part_zero]
    go_wp2_with (first | (go_at_call 18; refine C18.out.mono ?_; rintro e w1 ⟨rfl, hb1⟩; have HB1 := Lib.hid (HB.out.below hb1); have HL1 : Hid (Below B W w1) := Lib.hid (hb1.mono (Nat.le_of_lt hBW)); clear hb1) | (go_at_call 17; refine (bld_byte 57 _ (by rfl) HB5.out (by first | omega | (simp; omega))).mono ?_; rintro e w6 ⟨rfl, hq, hl⟩; have HB6 := Lib.hid hq; have HL6 := Lib.hid (HL5.out.trans hl); clear hq hl) | (go_at_call 17; refine (bld_byte 48 _ (by rfl) HB4.out (by first | omega | (simp; omega))).mono ?_; rintro e w5 ⟨rfl, hq, hl⟩; have HB5 := Lib.hid hq; have HL5 := Lib.hid (HL4.out.trans hl); clear hq hl) | (go_at_call 17; refine (bld_byte 37 _ (by rfl) HB1.out (by first | omega | (simp; omega))).mono ?_; rintro e w4 ⟨rfl, hq, hl⟩; have HB4 := Lib.hid hq; have HL4 := Lib.hid (HL1.out.trans hl); clear hq hl))
    exact HK.out _ _ _ _ _ _ _ _ _ _ _ _ _ _ _ _ _ _ _ _ _ _ _ _ _ _ _ _ _ _ _ _ _ _ _ _ _ _ _ _ _ _ _ _ _ _ _ _ _ _ _ _ _ _ _ _ _ _ _ _ _ _ _ _ _ _ _ _ _ _ _ _ _ _ _ _ _ _ _ _ _ _ _ _ _ _ _ _ _ (by go_num) (by go_num) (by rw [hp0, List.append_nil]; simpa [List.append_assoc] using HB6) HL6
set_option maxRecDepth 1000000 in
set_option maxHeartbeats 16000000 in
theorem rnd_10 (Q : Exit → Act → World → Prop) (s : ByteArray) (W : World) (B T : Nat) (acc : List Nat) (i rs r n : Nat) (y0 y2 y3 y4 y5 y12 y13 y14 y15 y16 y17 y18 y19 y20 y21 y22 y23 y24 y25 y26 y27 y28 y29 y30 y31 y32 y33 y34 y35 y36 y37 y38 y39 y40 y41 y42 y43 y44 y45 y46 y47 y48 y49 y50 y51 y52 y53 y54 y55 y56 y57 y58 y59 y60 y61 y62 y63 y64 y65 y66 y67 y68 y69 y70 y71 y72 y73 y74 y75 y76 y77 y78 y79 y80 y81 y82 y83 y84 y85 y86 y87 y88 y89 y90 y91 y92 y93 y94 y95 y96 y97 y98 y99 y100 y101 y102 y103 y104 y105 y106 y107 y108 y109 y110 y111 y112 y113 y114 y115 y116 y117 y118 y119 y120 y121 y122 y123 y124 y125 y126 y127 y128 y129 y130 y131 y132 y133 y134 y135 y136 : Value) (HB : Hid (Bld B acc W)) (hB2 : 2 ≤ B) (HT : Hid (Lib.Utf8Tabs 0 1 W)) (hal : acc.length ≤ 10000) (hs : s.size ≤ 300) (hi : i < s.size) (hrs : rs ≤ i) (hS : Sign s i r n) (hr : r = 10) 
    (hK : ∀ (iv rv : Value) (w3 : World) (x13 x14 x45 x46 x47 x48 x49 x50 x51 x52 x53 x54 x55 x56 x57 x58 x59 x60 x61 x62 x63 x64 x65 x66 x67 x68 x69 x70 x71 x72 x73 x74 x75 x76 x77 x78 x79 x80 x81 x82 x83 x84 x85 x86 x87 x88 x89 x90 x91 x92 x93 x94 x95 x96 x97 x98 x99 x100 x101 x102 x103 x104 x105 x106 x107 x108 x109 x110 x111 x112 x113 x114 x115 x116 x117 x118 x119 x120 x121 x122 x123 x124 x125 x126 x127 x128 : Value), iv = .int .i64 ((i + 1 : Nat) : Int) → rv = .int .i64 ((i + 1 : Nat) : Int) → Hid (Bld B (acc ++ part s rs (i - rs) ++ [37, 48, 65]) w3) → Hid (Below B W w3) →
      Q .normal ⟨#[y0, .string s, y2, y3, y4, y5, .string ⟨#[48, 49, 50, 51, 52, 53, 54, 55, 56, 57, 65, 66, 67, 68, 69, 70]⟩, .pointer (some ⟨B, 0, none⟩), .int .i64 (s.size : Int), iv, rv, .int .i64 (T : Int), y12, x13, x14, y15, y16, y17, y18, y19, y20, y21, y22, y23, y24, y25, y26, y27, y28, y29, y30, y31, y32, y33, y34, y35, y36, y37, y38, y39, y40, y41, y42, y43, y44, x45, x46, x47, x48, x49, x50, x51, x52, x53, x54, x55, x56, x57, x58, x59, x60, x61, x62, x63, x64, x65, x66, x67, x68, x69, x70, x71, x72, x73, x74, x75, x76, x77, x78, x79, x80, x81, x82, x83, x84, x85, x86, x87, x88, x89, x90, x91, x92, x93, x94, x95, x96, x97, x98, x99, x100, x101, x102, x103, x104, x105, x106, x107, x108, x109, x110, x111, x112, x113, x114, x115, x116, x117, x118, x119, x120, x121, x122, x123, x124, x125, x126, x127, x128, y129, y130, y131, y132, y133, y134, y135, y136], []⟩ w3) :
    pctRound.wp Tryd.prog Q ⟨#[y0, .string s, y2, y3, y4, y5, .string ⟨#[48, 49, 50, 51, 52, 53, 54, 55, 56, 57, 65, 66, 67, 68, 69, 70]⟩, .pointer (some ⟨B, 0, none⟩), .int .i64 (s.size : Int), .int .i64 (i : Int), .int .i64 (rs : Int), .int .i64 (T : Int), y12, y13, y14, y15, y16, y17, y18, y19, y20, y21, y22, y23, y24, y25, y26, y27, y28, y29, y30, y31, y32, y33, y34, y35, y36, y37, y38, y39, y40, y41, y42, y43, y44, y45, y46, y47, y48, y49, y50, y51, y52, y53, y54, y55, y56, y57, y58, y59, y60, y61, y62, y63, y64, y65, y66, y67, y68, y69, y70, y71, y72, y73, y74, y75, y76, y77, y78, y79, y80, y81, y82, y83, y84, y85, y86, y87, y88, y89, y90, y91, y92, y93, y94, y95, y96, y97, y98, y99, y100, y101, y102, y103, y104, y105, y106, y107, y108, y109, y110, y111, y112, y113, y114, y115, y116, y117, y118, y119, y120, y121, y122, y123, y124, y125, y126, y127, y128, y129, y130, y131, y132, y133, y134, y135, y136], []⟩ W := by
  have HK := Lib.hid hK
  have C18 := Lib.hid (dec_at s i r n hS hi W HT.out)
  have hin := hS.inn
  have hwd := hS.wide
  have hBW : B < W.heap.size := HB.out.lt
  clear hK
  conv => arg 2; whnf
  subst hr
  obtain rfl := low_sign hS (by omega)
  clear hS
  have E37 : Hid ((37 : Int) = ((37 : Nat) : Int)) := Lib.hid rfl
  have E48 : Hid ((48 : Int) = ((48 : Nat) : Int)) := Lib.hid rfl
  have E65 : Hid ((65 : Int) = ((65 : Nat) : Int)) := Lib.hid rfl
  have xx0 : ((⟨#[48, 49, 50, 51, 52, 53, 54, 55, 56, 57, 65, 66, 67, 68, 69, 70]⟩ : ByteArray)[0]'(by decide)).toNat = 48 := rfl
  have xx10 : ((⟨#[48, 49, 50, 51, 52, 53, 54, 55, 56, 57, 65, 66, 67, 68, 69, 70]⟩ : ByteArray)[10]'(by decide)).toNat = 65 := rfl
  have hpl : (part s rs (i - rs)).length ≤ 300 := by rw [part_len (by omega)]; omega
  by_cases hri : rs < i
  · have hx1 : (s.extract rs i).size ≤ 1000000 := by simp; omega
    have HE := Lib.hid (ext_nums s rs i)
    go_wp2_with (first | (go_at_call 18; refine C18.out.mono ?_; rintro e w1 ⟨rfl, hb1⟩; have HB1 := Lib.hid (HB.out.below hb1); have HL1 : Hid (Below B W w1) := Lib.hid (hb1.mono (Nat.le_of_lt hBW)); clear hb1) | (go_at_call 16; refine (bld_string (s.extract rs i) HB1.out (by omega) hx1).mono ?_; rintro e w2 ⟨rfl, hq, hl⟩; have HB2 := Lib.hid hq; rw [HE.out] at HB2; have HL2 := Lib.hid (HL1.out.trans hl); clear hq hl) | (go_at_call 17; refine (bld_byte 65 _ (by rfl) HB5.out (by first | omega | (simp; omega))).mono ?_; rintro e w6 ⟨rfl, hq, hl⟩; have HB6 := Lib.hid hq; have HL6 := Lib.hid (HL5.out.trans hl); clear hq hl) | (go_at_call 17; refine (bld_byte 48 _ (by rfl) HB4.out (by first | omega | (simp; omega))).mono ?_; rintro e w5 ⟨rfl, hq, hl⟩; have HB5 := Lib.hid hq; have HL5 := Lib.hid (HL4.out.trans hl); clear hq hl) | (go_at_call 17; refine (bld_byte 37 _ (by rfl) HB2.out (by first | omega | (simp; omega))).mono ?_; rintro e w4 ⟨rfl, hq, hl⟩; have HB4 := Lib.hid hq; have HL4 := Lib.hid (HL2.out.trans hl); clear hq hl))
    exact HK.out _ _ _ _ _ _ _ _ _ _ _ _ _ _ _ _ _ _ _ _ _ _ _ _ _ _ _ _ _ _ _ _ _ _ _ _ _ _ _ _ _ _ _ _ _ _ _ _ _ _ _ _ _ _ _ _ _ _ _ _ _ _ _ _ _ _ _ _ _ _ _ _ _ _ _ _ _ _ _ _ _ _ _ _ _ _ _ _ _ (by go_num) (by go_num) (by simpa [List.append_assoc] using HB6) HL6
  · have t9 : decide ((rs : Int) < (i : Int)) = false := by simp; omega
    have hp0 : part s rs (i - rs) = [] := by rw [show i - rs = 0 by omega, part_zero]
    go_wp2_with (first | (go_at_call 18; refine C18.out.mono ?_; rintro e w1 ⟨rfl, hb1⟩; have HB1 := Lib.hid (HB.out.below hb1); have HL1 : Hid (Below B W w1) := Lib.hid (hb1.mono (Nat.le_of_lt hBW)); clear hb1) | (go_at_call 17; refine (bld_byte 65 _ (by rfl) HB5.out (by first | omega | (simp; omega))).mono ?_; rintro e w6 ⟨rfl, hq, hl⟩; have HB6 := Lib.hid hq; have HL6 := Lib.hid (HL5.out.trans hl); clear hq hl) | (go_at_call 17; refine (bld_byte 48 _ (by rfl) HB4.out (by first | omega | (simp; omega))).mono ?_; rintro e w5 ⟨rfl, hq, hl⟩; have HB5 := Lib.hid hq; have HL5 := Lib.hid (HL4.out.trans hl); clear hq hl) | (go_at_call 17; refine (bld_byte 37 _ (by rfl) HB1.out (by first | omega | (simp; omega))).mono ?_; rintro e w4 ⟨rfl, hq, hl⟩; have HB4 := Lib.hid hq; have HL4 := Lib.hid (HL1.out.trans hl); clear hq hl))
    exact HK.out _ _ _ _ _ _ _ _ _ _ _ _ _ _ _ _ _ _ _ _ _ _ _ _ _ _ _ _ _ _ _ _ _ _ _ _ _ _ _ _ _ _ _ _ _ _ _ _ _ _ _ _ _ _ _ _ _ _ _ _ _ _ _ _ _ _ _ _ _ _ _ _ _ _ _ _ _ _ _ _ _ _ _ _ _ _ _ _ _ (by go_num) (by go_num) (by rw [hp0, List.append_nil]; simpa [List.append_assoc] using HB6) HL6
set_option maxRecDepth 1000000 in
set_option maxHeartbeats 16000000 in
theorem rnd_13 (Q : Exit → Act → World → Prop) (s : ByteArray) (W : World) (B T : Nat) (acc : List Nat) (i rs r n : Nat) (y0 y2 y3 y4 y5 y12 y13 y14 y15 y16 y17 y18 y19 y20 y21 y22 y23 y24 y25 y26 y27 y28 y29 y30 y31 y32 y33 y34 y35 y36 y37 y38 y39 y40 y41 y42 y43 y44 y45 y46 y47 y48 y49 y50 y51 y52 y53 y54 y55 y56 y57 y58 y59 y60 y61 y62 y63 y64 y65 y66 y67 y68 y69 y70 y71 y72 y73 y74 y75 y76 y77 y78 y79 y80 y81 y82 y83 y84 y85 y86 y87 y88 y89 y90 y91 y92 y93 y94 y95 y96 y97 y98 y99 y100 y101 y102 y103 y104 y105 y106 y107 y108 y109 y110 y111 y112 y113 y114 y115 y116 y117 y118 y119 y120 y121 y122 y123 y124 y125 y126 y127 y128 y129 y130 y131 y132 y133 y134 y135 y136 : Value) (HB : Hid (Bld B acc W)) (hB2 : 2 ≤ B) (HT : Hid (Lib.Utf8Tabs 0 1 W)) (hal : acc.length ≤ 10000) (hs : s.size ≤ 300) (hi : i < s.size) (hrs : rs ≤ i) (hS : Sign s i r n) (hr : r = 13) 
    (hK : ∀ (iv rv : Value) (w3 : World) (x13 x14 x45 x46 x47 x48 x49 x50 x51 x52 x53 x54 x55 x56 x57 x58 x59 x60 x61 x62 x63 x64 x65 x66 x67 x68 x69 x70 x71 x72 x73 x74 x75 x76 x77 x78 x79 x80 x81 x82 x83 x84 x85 x86 x87 x88 x89 x90 x91 x92 x93 x94 x95 x96 x97 x98 x99 x100 x101 x102 x103 x104 x105 x106 x107 x108 x109 x110 x111 x112 x113 x114 x115 x116 x117 x118 x119 x120 x121 x122 x123 x124 x125 x126 x127 x128 : Value), iv = .int .i64 ((i + 1 : Nat) : Int) → rv = .int .i64 ((i + 1 : Nat) : Int) → Hid (Bld B (acc ++ part s rs (i - rs) ++ [37, 48, 68]) w3) → Hid (Below B W w3) →
      Q .normal ⟨#[y0, .string s, y2, y3, y4, y5, .string ⟨#[48, 49, 50, 51, 52, 53, 54, 55, 56, 57, 65, 66, 67, 68, 69, 70]⟩, .pointer (some ⟨B, 0, none⟩), .int .i64 (s.size : Int), iv, rv, .int .i64 (T : Int), y12, x13, x14, y15, y16, y17, y18, y19, y20, y21, y22, y23, y24, y25, y26, y27, y28, y29, y30, y31, y32, y33, y34, y35, y36, y37, y38, y39, y40, y41, y42, y43, y44, x45, x46, x47, x48, x49, x50, x51, x52, x53, x54, x55, x56, x57, x58, x59, x60, x61, x62, x63, x64, x65, x66, x67, x68, x69, x70, x71, x72, x73, x74, x75, x76, x77, x78, x79, x80, x81, x82, x83, x84, x85, x86, x87, x88, x89, x90, x91, x92, x93, x94, x95, x96, x97, x98, x99, x100, x101, x102, x103, x104, x105, x106, x107, x108, x109, x110, x111, x112, x113, x114, x115, x116, x117, x118, x119, x120, x121, x122, x123, x124, x125, x126, x127, x128, y129, y130, y131, y132, y133, y134, y135, y136], []⟩ w3) :
    pctRound.wp Tryd.prog Q ⟨#[y0, .string s, y2, y3, y4, y5, .string ⟨#[48, 49, 50, 51, 52, 53, 54, 55, 56, 57, 65, 66, 67, 68, 69, 70]⟩, .pointer (some ⟨B, 0, none⟩), .int .i64 (s.size : Int), .int .i64 (i : Int), .int .i64 (rs : Int), .int .i64 (T : Int), y12, y13, y14, y15, y16, y17, y18, y19, y20, y21, y22, y23, y24, y25, y26, y27, y28, y29, y30, y31, y32, y33, y34, y35, y36, y37, y38, y39, y40, y41, y42, y43, y44, y45, y46, y47, y48, y49, y50, y51, y52, y53, y54, y55, y56, y57, y58, y59, y60, y61, y62, y63, y64, y65, y66, y67, y68, y69, y70, y71, y72, y73, y74, y75, y76, y77, y78, y79, y80, y81, y82, y83, y84, y85, y86, y87, y88, y89, y90, y91, y92, y93, y94, y95, y96, y97, y98, y99, y100, y101, y102, y103, y104, y105, y106, y107, y108, y109, y110, y111, y112, y113, y114, y115, y116, y117, y118, y119, y120, y121, y122, y123, y124, y125, y126, y127, y128, y129, y130, y131, y132, y133, y134, y135, y136], []⟩ W := by
  have HK := Lib.hid hK
  have C18 := Lib.hid (dec_at s i r n hS hi W HT.out)
  have hin := hS.inn
  have hwd := hS.wide
  have hBW : B < W.heap.size := HB.out.lt
  clear hK
  conv => arg 2; whnf
  subst hr
  obtain rfl := low_sign hS (by omega)
  clear hS
  have E37 : Hid ((37 : Int) = ((37 : Nat) : Int)) := Lib.hid rfl
  have E48 : Hid ((48 : Int) = ((48 : Nat) : Int)) := Lib.hid rfl
  have E68 : Hid ((68 : Int) = ((68 : Nat) : Int)) := Lib.hid rfl
  have xx0 : ((⟨#[48, 49, 50, 51, 52, 53, 54, 55, 56, 57, 65, 66, 67, 68, 69, 70]⟩ : ByteArray)[0]'(by decide)).toNat = 48 := rfl
  have xx13 : ((⟨#[48, 49, 50, 51, 52, 53, 54, 55, 56, 57, 65, 66, 67, 68, 69, 70]⟩ : ByteArray)[13]'(by decide)).toNat = 68 := rfl
  have hpl : (part s rs (i - rs)).length ≤ 300 := by rw [part_len (by omega)]; omega
  by_cases hri : rs < i
  · have hx1 : (s.extract rs i).size ≤ 1000000 := by simp; omega
    have HE := Lib.hid (ext_nums s rs i)
    go_wp2_with (first | (go_at_call 18; refine C18.out.mono ?_; rintro e w1 ⟨rfl, hb1⟩; have HB1 := Lib.hid (HB.out.below hb1); have HL1 : Hid (Below B W w1) := Lib.hid (hb1.mono (Nat.le_of_lt hBW)); clear hb1) | (go_at_call 16; refine (bld_string (s.extract rs i) HB1.out (by omega) hx1).mono ?_; rintro e w2 ⟨rfl, hq, hl⟩; have HB2 := Lib.hid hq; rw [HE.out] at HB2; have HL2 := Lib.hid (HL1.out.trans hl); clear hq hl) | (go_at_call 17; refine (bld_byte 68 _ (by rfl) HB5.out (by first | omega | (simp; omega))).mono ?_; rintro e w6 ⟨rfl, hq, hl⟩; have HB6 := Lib.hid hq; have HL6 := Lib.hid (HL5.out.trans hl); clear hq hl) | (go_at_call 17; refine (bld_byte 48 _ (by rfl) HB4.out (by first | omega | (simp; omega))).mono ?_; rintro e w5 ⟨rfl, hq, hl⟩; have HB5 := Lib.hid hq; have HL5 := Lib.hid (HL4.out.trans hl); clear hq hl) | (go_at_call 17; refine (bld_byte 37 _ (by rfl) HB2.out (by first | omega | (simp; omega))).mono ?_; rintro e w4 ⟨rfl, hq, hl⟩; have HB4 := Lib.hid hq; have HL4 := Lib.hid (HL2.out.trans hl); clear hq hl))
    exact HK.out _ _ _ _ _ _ _ _ _ _ _ _ _ _ _ _ _ _ _ _ _ _ _ _ _ _ _ _ _ _ _ _ _ _ _ _ _ _ _ _ _ _ _ _ _ _ _ _ _ _ _ _ _ _ _ _ _ _ _ _ _ _ _ _ _ _ _ _ _ _ _ _ _ _ _ _ _ _ _ _ _ _ _ _ _ _ _ _ _ (by go_num) (by go_num) (by simpa [List.append_assoc] using HB6) HL6
  · have t9 : decide ((rs : Int) < (i : Int)) = false := by simp; omega
    have hp0 : part s rs (i - rs) = [] := by rw [show i - rs = 0 by omega, part_zero]
    go_wp2_with (first | (go_at_call 18; refine C18.out.mono ?_; rintro e w1 ⟨rfl, hb1⟩; have HB1 := Lib.hid (HB.out.below hb1); have HL1 : Hid (Below B W w1) := Lib.hid (hb1.mono (Nat.le_of_lt hBW)); clear hb1) | (go_at_call 17; refine (bld_byte 68 _ (by rfl) HB5.out (by first | omega | (simp; omega))).mono ?_; rintro e w6 ⟨rfl, hq, hl⟩; have HB6 := Lib.hid hq; have HL6 := Lib.hid (HL5.out.trans hl); clear hq hl) | (go_at_call 17; refine (bld_byte 48 _ (by rfl) HB4.out (by first | omega | (simp; omega))).mono ?_; rintro e w5 ⟨rfl, hq, hl⟩; have HB5 := Lib.hid hq; have HL5 := Lib.hid (HL4.out.trans hl); clear hq hl) | (go_at_call 17; refine (bld_byte 37 _ (by rfl) HB1.out (by first | omega | (simp; omega))).mono ?_; rintro e w4 ⟨rfl, hq, hl⟩; have HB4 := Lib.hid hq; have HL4 := Lib.hid (HL1.out.trans hl); clear hq hl))
    exact HK.out _ _ _ _ _ _ _ _ _ _ _ _ _ _ _ _ _ _ _ _ _ _ _ _ _ _ _ _ _ _ _ _ _ _ _ _ _ _ _ _ _ _ _ _ _ _ _ _ _ _ _ _ _ _ _ _ _ _ _ _ _ _ _ _ _ _ _ _ _ _ _ _ _ _ _ _ _ _ _ _ _ _ _ _ _ _ _ _ _ (by go_num) (by go_num) (by rw [hp0, List.append_nil]; simpa [List.append_assoc] using HB6) HL6
set_option maxRecDepth 1000000 in
set_option maxHeartbeats 16000000 in
theorem rnd_35 (Q : Exit → Act → World → Prop) (s : ByteArray) (W : World) (B T : Nat) (acc : List Nat) (i rs r n : Nat) (y0 y2 y3 y4 y5 y12 y13 y14 y15 y16 y17 y18 y19 y20 y21 y22 y23 y24 y25 y26 y27 y28 y29 y30 y31 y32 y33 y34 y35 y36 y37 y38 y39 y40 y41 y42 y43 y44 y45 y46 y47 y48 y49 y50 y51 y52 y53 y54 y55 y56 y57 y58 y59 y60 y61 y62 y63 y64 y65 y66 y67 y68 y69 y70 y71 y72 y73 y74 y75 y76 y77 y78 y79 y80 y81 y82 y83 y84 y85 y86 y87 y88 y89 y90 y91 y92 y93 y94 y95 y96 y97 y98 y99 y100 y101 y102 y103 y104 y105 y106 y107 y108 y109 y110 y111 y112 y113 y114 y115 y116 y117 y118 y119 y120 y121 y122 y123 y124 y125 y126 y127 y128 y129 y130 y131 y132 y133 y134 y135 y136 : Value) (HB : Hid (Bld B acc W)) (hB2 : 2 ≤ B) (HT : Hid (Lib.Utf8Tabs 0 1 W)) (hal : acc.length ≤ 10000) (hs : s.size ≤ 300) (hi : i < s.size) (hrs : rs ≤ i) (hS : Sign s i r n) (hr : r = 35) 
    (hK : ∀ (iv rv : Value) (w3 : World) (x13 x14 x45 x46 x47 x48 x49 x50 x51 x52 x53 x54 x55 x56 x57 x58 x59 x60 x61 x62 x63 x64 x65 x66 x67 x68 x69 x70 x71 x72 x73 x74 x75 x76 x77 x78 x79 x80 x81 x82 x83 x84 x85 x86 x87 x88 x89 x90 x91 x92 x93 x94 x95 x96 x97 x98 x99 x100 x101 x102 x103 x104 x105 x106 x107 x108 x109 x110 x111 x112 x113 x114 x115 x116 x117 x118 x119 x120 x121 x122 x123 x124 x125 x126 x127 x128 : Value), iv = .int .i64 ((i + 1 : Nat) : Int) → rv = .int .i64 ((i + 1 : Nat) : Int) → Hid (Bld B (acc ++ part s rs (i - rs) ++ [37, 50, 51]) w3) → Hid (Below B W w3) →
      Q .normal ⟨#[y0, .string s, y2, y3, y4, y5, .string ⟨#[48, 49, 50, 51, 52, 53, 54, 55, 56, 57, 65, 66, 67, 68, 69, 70]⟩, .pointer (some ⟨B, 0, none⟩), .int .i64 (s.size : Int), iv, rv, .int .i64 (T : Int), y12, x13, x14, y15, y16, y17, y18, y19, y20, y21, y22, y23, y24, y25, y26, y27, y28, y29, y30, y31, y32, y33, y34, y35, y36, y37, y38, y39, y40, y41, y42, y43, y44, x45, x46, x47, x48, x49, x50, x51, x52, x53, x54, x55, x56, x57, x58, x59, x60, x61, x62, x63, x64, x65, x66, x67, x68, x69, x70, x71, x72, x73, x74, x75, x76, x77, x78, x79, x80, x81, x82, x83, x84, x85, x86, x87, x88, x89, x90, x91, x92, x93, x94, x95, x96, x97, x98, x99, x100, x101, x102, x103, x104, x105, x106, x107, x108, x109, x110, x111, x112, x113, x114, x115, x116, x117, x118, x119, x120, x121, x122, x123, x124, x125, x126, x127, x128, y129, y130, y131, y132, y133, y134, y135, y136], []⟩ w3) :
    pctRound.wp Tryd.prog Q ⟨#[y0, .string s, y2, y3, y4, y5, .string ⟨#[48, 49, 50, 51, 52, 53, 54, 55, 56, 57, 65, 66, 67, 68, 69, 70]⟩, .pointer (some ⟨B, 0, none⟩), .int .i64 (s.size : Int), .int .i64 (i : Int), .int .i64 (rs : Int), .int .i64 (T : Int), y12, y13, y14, y15, y16, y17, y18, y19, y20, y21, y22, y23, y24, y25, y26, y27, y28, y29, y30, y31, y32, y33, y34, y35, y36, y37, y38, y39, y40, y41, y42, y43, y44, y45, y46, y47, y48, y49, y50, y51, y52, y53, y54, y55, y56, y57, y58, y59, y60, y61, y62, y63, y64, y65, y66, y67, y68, y69, y70, y71, y72, y73, y74, y75, y76, y77, y78, y79, y80, y81, y82, y83, y84, y85, y86, y87, y88, y89, y90, y91, y92, y93, y94, y95, y96, y97, y98, y99, y100, y101, y102, y103, y104, y105, y106, y107, y108, y109, y110, y111, y112, y113, y114, y115, y116, y117, y118, y119, y120, y121, y122, y123, y124, y125, y126, y127, y128, y129, y130, y131, y132, y133, y134, y135, y136], []⟩ W := by
  have HK := Lib.hid hK
  have C18 := Lib.hid (dec_at s i r n hS hi W HT.out)
  have hin := hS.inn
  have hwd := hS.wide
  have hBW : B < W.heap.size := HB.out.lt
  clear hK
  conv => arg 2; whnf
  subst hr
  obtain rfl := low_sign hS (by omega)
  clear hS
  have E37 : Hid ((37 : Int) = ((37 : Nat) : Int)) := Lib.hid rfl
  have E50 : Hid ((50 : Int) = ((50 : Nat) : Int)) := Lib.hid rfl
  have E51 : Hid ((51 : Int) = ((51 : Nat) : Int)) := Lib.hid rfl
  have xx2 : ((⟨#[48, 49, 50, 51, 52, 53, 54, 55, 56, 57, 65, 66, 67, 68, 69, 70]⟩ : ByteArray)[2]'(by decide)).toNat = 50 := rfl
  have xx3 : ((⟨#[48, 49, 50, 51, 52, 53, 54, 55, 56, 57, 65, 66, 67, 68, 69, 70]⟩ : ByteArray)[3]'(by decide)).toNat = 51 := rfl
  have hpl : (part s rs (i - rs)).length ≤ 300 := by rw [part_len (by omega)]; omega
  by_cases hri : rs < i
  · have hx1 : (s.extract rs i).size ≤ 1000000 := by simp; omega
    have HE := Lib.hid (ext_nums s rs i)
    go_wp2_with (first | (go_at_call 18; refine C18.out.mono ?_; rintro e w1 ⟨rfl, hb1⟩; have HB1 := Lib.hid (HB.out.below hb1); have HL1 : Hid (Below B W w1) := Lib.hid (hb1.mono (Nat.le_of_lt hBW)); clear hb1) | (go_at_call 16; refine (bld_string (s.extract rs i) HB1.out (by omega) hx1).mono ?_; rintro e w2 ⟨rfl, hq, hl⟩; have HB2 := Lib.hid hq; rw [HE.out] at HB2; have HL2 := Lib.hid (HL1.out.trans hl); clear hq hl) | (go_at_call 17; refine (bld_byte 51 _ (by rfl) HB5.out (by first | omega | (simp; omega))).mono ?_; rintro e w6 ⟨rfl, hq, hl⟩; have HB6 := Lib.hid hq; have HL6 := Lib.hid (HL5.out.trans hl); clear hq hl) | (go_at_call 17; refine (bld_byte 50 _ (by rfl) HB4.out (by first | omega | (simp; omega))).mono ?_; rintro e w5 ⟨rfl, hq, hl⟩; have HB5 := Lib.hid hq; have HL5 := Lib.hid (HL4.out.trans hl); clear hq hl) | (go_at_call 17; refine (bld_byte 37 _ (by rfl) HB2.out (by first | omega | (simp; omega))).mono ?_; rintro e w4 ⟨rfl, hq, hl⟩; have HB4 := Lib.hid hq; have HL4 := Lib.hid (HL2.out.trans hl); clear hq hl))
    exact HK.out _ _ _ _ _ _ _ _ _ _ _ _ _ _ _ _ _ _ _ _ _ _ _ _ _ _ _ _ _ _ _ _ _ _ _ _ _ _ _ _ _ _ _ _ _ _ _ _ _ _ _ _ _ _ _ _ _ _ _ _ _ _ _ _ _ _ _ _ _ _ _ _ _ _ _ _ _ _ _ _ _ _ _ _ _ _ _ _ _ (by go_num) (by go_num) (by simpa [List.append_assoc] using HB6) HL6
  · have t9 : decide ((rs : Int) < (i : Int)) = false := by simp; omega
    have hp0 : part s rs (i - rs) = [] := by rw [show i - rs = 0 by omega, part_zero]
    go_wp2_with (first | (go_at_call 18; refine C18.out.mono ?_; rintro e w1 ⟨rfl, hb1⟩; have HB1 := Lib.hid (HB.out.below hb1); have HL1 : Hid (Below B W w1) := Lib.hid (hb1.mono (Nat.le_of_lt hBW)); clear hb1) | (go_at_call 17; refine (bld_byte 51 _ (by rfl) HB5.out (by first | omega | (simp; omega))).mono ?_; rintro e w6 ⟨rfl, hq, hl⟩; have HB6 := Lib.hid hq; have HL6 := Lib.hid (HL5.out.trans hl); clear hq hl) | (go_at_call 17; refine (bld_byte 50 _ (by rfl) HB4.out (by first | omega | (simp; omega))).mono ?_; rintro e w5 ⟨rfl, hq, hl⟩; have HB5 := Lib.hid hq; have HL5 := Lib.hid (HL4.out.trans hl); clear hq hl) | (go_at_call 17; refine (bld_byte 37 _ (by rfl) HB1.out (by first | omega | (simp; omega))).mono ?_; rintro e w4 ⟨rfl, hq, hl⟩; have HB4 := Lib.hid hq; have HL4 := Lib.hid (HL1.out.trans hl); clear hq hl))
    exact HK.out _ _ _ _ _ _ _ _ _ _ _ _ _ _ _ _ _ _ _ _ _ _ _ _ _ _ _ _ _ _ _ _ _ _ _ _ _ _ _ _ _ _ _ _ _ _ _ _ _ _ _ _ _ _ _ _ _ _ _ _ _ _ _ _ _ _ _ _ _ _ _ _ _ _ _ _ _ _ _ _ _ _ _ _ _ _ _ _ _ (by go_num) (by go_num) (by rw [hp0, List.append_nil]; simpa [List.append_assoc] using HB6) HL6
set_option maxRecDepth 1000000 in
set_option maxHeartbeats 16000000 in
theorem rnd_32 (Q : Exit → Act → World → Prop) (s : ByteArray) (W : World) (B T : Nat) (acc : List Nat) (i rs r n : Nat) (y0 y2 y3 y4 y5 y12 y13 y14 y15 y16 y17 y18 y19 y20 y21 y22 y23 y24 y25 y26 y27 y28 y29 y30 y31 y32 y33 y34 y35 y36 y37 y38 y39 y40 y41 y42 y43 y44 y45 y46 y47 y48 y49 y50 y51 y52 y53 y54 y55 y56 y57 y58 y59 y60 y61 y62 y63 y64 y65 y66 y67 y68 y69 y70 y71 y72 y73 y74 y75 y76 y77 y78 y79 y80 y81 y82 y83 y84 y85 y86 y87 y88 y89 y90 y91 y92 y93 y94 y95 y96 y97 y98 y99 y100 y101 y102 y103 y104 y105 y106 y107 y108 y109 y110 y111 y112 y113 y114 y115 y116 y117 y118 y119 y120 y121 y122 y123 y124 y125 y126 y127 y128 y129 y130 y131 y132 y133 y134 y135 y136 : Value) (HB : Hid (Bld B acc W)) (hB2 : 2 ≤ B) (HT : Hid (Lib.Utf8Tabs 0 1 W)) (hal : acc.length ≤ 10000) (hs : s.size ≤ 300) (hi : i < s.size) (hrs : rs ≤ i) (hS : Sign s i r n) (hr : r = 32) (hT : T ≤ i)
    (hK : ∀ (iv rv : Value) (w3 : World) (x13 x14 x45 x46 x47 x48 x49 x50 x51 x52 x53 x54 x55 x56 x57 x58 x59 x60 x61 x62 x63 x64 x65 x66 x67 x68 x69 x70 x71 x72 x73 x74 x75 x76 x77 x78 x79 x80 x81 x82 x83 x84 x85 x86 x87 x88 x89 x90 x91 x92 x93 x94 x95 x96 x97 x98 x99 x100 x101 x102 x103 x104 x105 x106 x107 x108 x109 x110 x111 x112 x113 x114 x115 x116 x117 x118 x119 x120 x121 x122 x123 x124 x125 x126 x127 x128 : Value), iv = .int .i64 ((i + 1 : Nat) : Int) → rv = .int .i64 ((i + 1 : Nat) : Int) → Hid (Bld B (acc ++ part s rs (i - rs) ++ [37, 50, 48]) w3) → Hid (Below B W w3) →
      Q .normal ⟨#[y0, .string s, y2, y3, y4, y5, .string ⟨#[48, 49, 50, 51, 52, 53, 54, 55, 56, 57, 65, 66, 67, 68, 69, 70]⟩, .pointer (some ⟨B, 0, none⟩), .int .i64 (s.size : Int), iv, rv, .int .i64 (T : Int), y12, x13, x14, y15, y16, y17, y18, y19, y20, y21, y22, y23, y24, y25, y26, y27, y28, y29, y30, y31, y32, y33, y34, y35, y36, y37, y38, y39, y40, y41, y42, y43, y44, x45, x46, x47, x48, x49, x50, x51, x52, x53, x54, x55, x56, x57, x58, x59, x60, x61, x62, x63, x64, x65, x66, x67, x68, x69, x70, x71, x72, x73, x74, x75, x76, x77, x78, x79, x80, x81, x82, x83, x84, x85, x86, x87, x88, x89, x90, x91, x92, x93, x94, x95, x96, x97, x98, x99, x100, x101, x102, x103, x104, x105, x106, x107, x108, x109, x110, x111, x112, x113, x114, x115, x116, x117, x118, x119, x120, x121, x122, x123, x124, x125, x126, x127, x128, y129, y130, y131, y132, y133, y134, y135, y136], []⟩ w3) :
    pctRound.wp Tryd.prog Q ⟨#[y0, .string s, y2, y3, y4, y5, .string ⟨#[48, 49, 50, 51, 52, 53, 54, 55, 56, 57, 65, 66, 67, 68, 69, 70]⟩, .pointer (some ⟨B, 0, none⟩), .int .i64 (s.size : Int), .int .i64 (i : Int), .int .i64 (rs : Int), .int .i64 (T : Int), y12, y13, y14, y15, y16, y17, y18, y19, y20, y21, y22, y23, y24, y25, y26, y27, y28, y29, y30, y31, y32, y33, y34, y35, y36, y37, y38, y39, y40, y41, y42, y43, y44, y45, y46, y47, y48, y49, y50, y51, y52, y53, y54, y55, y56, y57, y58, y59, y60, y61, y62, y63, y64, y65, y66, y67, y68, y69, y70, y71, y72, y73, y74, y75, y76, y77, y78, y79, y80, y81, y82, y83, y84, y85, y86, y87, y88, y89, y90, y91, y92, y93, y94, y95, y96, y97, y98, y99, y100, y101, y102, y103, y104, y105, y106, y107, y108, y109, y110, y111, y112, y113, y114, y115, y116, y117, y118, y119, y120, y121, y122, y123, y124, y125, y126, y127, y128, y129, y130, y131, y132, y133, y134, y135, y136], []⟩ W := by
  have HK := Lib.hid hK
  have C18 := Lib.hid (dec_at s i r n hS hi W HT.out)
  have hin := hS.inn
  have hwd := hS.wide
  have hBW : B < W.heap.size := HB.out.lt
  clear hK
  conv => arg 2; whnf
  subst hr
  obtain rfl := low_sign hS (by omega)
  clear hS
  have tT : decide ((T : Int) ≤ (i : Int)) = true := by simp; omega
  have E37 : Hid ((37 : Int) = ((37 : Nat) : Int)) := Lib.hid rfl
  have E48 : Hid ((48 : Int) = ((48 : Nat) : Int)) := Lib.hid rfl
  have E50 : Hid ((50 : Int) = ((50 : Nat) : Int)) := Lib.hid rfl
  have xx0 : ((⟨#[48, 49, 50, 51, 52, 53, 54, 55, 56, 57, 65, 66, 67, 68, 69, 70]⟩ : ByteArray)[0]'(by decide)).toNat = 48 := rfl
  have xx2 : ((⟨#[48, 49, 50, 51, 52, 53, 54, 55, 56, 57, 65, 66, 67, 68, 69, 70]⟩ : ByteArray)[2]'(by decide)).toNat = 50 := rfl
  have hpl : (part s rs (i - rs)).length ≤ 300 := by rw [part_len (by omega)]; omega
  by_cases hri : rs < i
  · have hx1 : (s.extract rs i).size ≤ 1000000 := by simp; omega
    have HE := Lib.hid (ext_nums s rs i)
    go_wp2_with (first | (go_at_call 18; refine C18.out.mono ?_; rintro e w1 ⟨rfl, hb1⟩; have HB1 := Lib.hid (HB.out.below hb1); have HL1 : Hid (Below B W w1) := Lib.hid (hb1.mono (Nat.le_of_lt hBW)); clear hb1) | (go_at_call 16; refine (bld_string (s.extract rs i) HB1.out (by omega) hx1).mono ?_; rintro e w2 ⟨rfl, hq, hl⟩; have HB2 := Lib.hid hq; rw [HE.out] at HB2; have HL2 := Lib.hid (HL1.out.trans hl); clear hq hl) | (go_at_call 17; refine (bld_byte 48 _ (by rfl) HB5.out (by first | omega | (simp; omega))).mono ?_; rintro e w6 ⟨rfl, hq, hl⟩; have HB6 := Lib.hid hq; have HL6 := Lib.hid (HL5.out.trans hl); clear hq hl) | (go_at_call 17; refine (bld_byte 50 _ (by rfl) HB4.out (by first | omega | (simp; omega))).mono ?_; rintro e w5 ⟨rfl, hq, hl⟩; have HB5 := Lib.hid hq; have HL5 := Lib.hid (HL4.out.trans hl); clear hq hl) | (go_at_call 17; refine (bld_byte 37 _ (by rfl) HB2.out (by first | omega | (simp; omega))).mono ?_; rintro e w4 ⟨rfl, hq, hl⟩; have HB4 := Lib.hid hq; have HL4 := Lib.hid (HL2.out.trans hl); clear hq hl))
    exact HK.out _ _ _ _ _ _ _ _ _ _ _ _ _ _ _ _ _ _ _ _ _ _ _ _ _ _ _ _ _ _ _ _ _ _ _ _ _ _ _ _ _ _ _ _ _ _ _ _ _ _ _ _ _ _ _ _ _ _ _ _ _ _ _ _ _ _ _ _ _ _ _ _ _ _ _ _ _ _ _ _ _ _ _ _ _ _ _ _ _ (by go_num) (by go_num) (by simpa [List.append_assoc] using HB6) HL6
  · have t9 : decide ((rs : Int) < (i : Int)) = false := by simp; omega
    have hp0 : part s rs (i - rs) = [] := by rw [show i - rs = 0 by omega, part_zero]
    go_wp2_with (first | (go_at_call 18; refine C18.out.mono ?_; rintro e w1 ⟨rfl, hb1⟩; have HB1 := Lib.hid (HB.out.below hb1); have HL1 : Hid (Below B W w1) := Lib.hid (hb1.mono (Nat.le_of_lt hBW)); clear hb1) | (go_at_call 17; refine (bld_byte 48 _ (by rfl) HB5.out (by first | omega | (simp; omega))).mono ?_; rintro e w6 ⟨rfl, hq, hl⟩; have HB6 := Lib.hid hq; have HL6 := Lib.hid (HL5.out.trans hl); clear hq hl) | (go_at_call 17; refine (bld_byte 50 _ (by rfl) HB4.out (by first | omega | (simp; omega))).mono ?_; rintro e w5 ⟨rfl, hq, hl⟩; have HB5 := Lib.hid hq; have HL5 := Lib.hid (HL4.out.trans hl); clear hq hl) | (go_at_call 17; refine (bld_byte 37 _ (by rfl) HB1.out (by first | omega | (simp; omega))).mono ?_; rintro e w4 ⟨rfl, hq, hl⟩; have HB4 := Lib.hid hq; have HL4 := Lib.hid (HL1.out.trans hl); clear hq hl))
    exact HK.out _ _ _ _ _ _ _ _ _ _ _ _ _ _ _ _ _ _ _ _ _ _ _ _ _ _ _ _ _ _ _ _ _ _ _ _ _ _ _ _ _ _ _ _ _ _ _ _ _ _ _ _ _ _ _ _ _ _ _ _ _ _ _ _ _ _ _ _ _ _ _ _ _ _ _ _ _ _ _ _ _ _ _ _ _ _ _ _ _ (by go_num) (by go_num) (by rw [hp0, List.append_nil]; simpa [List.append_assoc] using HB6) HL6
set_option maxRecDepth 1000000 in
set_option maxHeartbeats 16000000 in
theorem rnd_37 (Q : Exit → Act → World → Prop) (s : ByteArray) (W : World) (B T : Nat) (acc : List Nat) (i rs r n : Nat) (y0 y2 y3 y4 y5 y12 y13 y14 y15 y16 y17 y18 y19 y20 y21 y22 y23 y24 y25 y26 y27 y28 y29 y30 y31 y32 y33 y34 y35 y36 y37 y38 y39 y40 y41 y42 y43 y44 y45 y46 y47 y48 y49 y50 y51 y52 y53 y54 y55 y56 y57 y58 y59 y60 y61 y62 y63 y64 y65 y66 y67 y68 y69 y70 y71 y72 y73 y74 y75 y76 y77 y78 y79 y80 y81 y82 y83 y84 y85 y86 y87 y88 y89 y90 y91 y92 y93 y94 y95 y96 y97 y98 y99 y100 y101 y102 y103 y104 y105 y106 y107 y108 y109 y110 y111 y112 y113 y114 y115 y116 y117 y118 y119 y120 y121 y122 y123 y124 y125 y126 y127 y128 y129 y130 y131 y132 y133 y134 y135 y136 : Value) (HB : Hid (Bld B acc W)) (hB2 : 2 ≤ B) (HT : Hid (Lib.Utf8Tabs 0 1 W)) (hal : acc.length ≤ 10000) (hs : s.size ≤ 300) (hi : i < s.size) (hrs : rs ≤ i) (hS : Sign s i r n) (hr : r = 37) (hT : i < T) (h2 : i + 2 < s.size) (hh1 : isHexN ((nums s).getD (i + 1) 0) = true) (hh2 : isHexN ((nums s).getD (i + 2) 0) = true)
    (hK : ∀ (iv rv : Value) (w3 : World) (x13 x14 x45 x46 x47 x48 x49 x50 x51 x52 x53 x54 x55 x56 x57 x58 x59 x60 x61 x62 x63 x64 x65 x66 x67 x68 x69 x70 x71 x72 x73 x74 x75 x76 x77 x78 x79 x80 x81 x82 x83 x84 x85 x86 x87 x88 x89 x90 x91 x92 x93 x94 x95 x96 x97 x98 x99 x100 x101 x102 x103 x104 x105 x106 x107 x108 x109 x110 x111 x112 x113 x114 x115 x116 x117 x118 x119 x120 x121 x122 x123 x124 x125 x126 x127 x128 : Value), iv = .int .i64 ((i + 1 : Nat) : Int) → rv = .int .i64 ((i + 1 : Nat) : Int) → Hid (Bld B (acc ++ part s rs (i - rs) ++ [37, 50, 53]) w3) → Hid (Below B W w3) →
      Q .normal ⟨#[y0, .string s, y2, y3, y4, y5, .string ⟨#[48, 49, 50, 51, 52, 53, 54, 55, 56, 57, 65, 66, 67, 68, 69, 70]⟩, .pointer (some ⟨B, 0, none⟩), .int .i64 (s.size : Int), iv, rv, .int .i64 (T : Int), y12, x13, x14, y15, y16, y17, y18, y19, y20, y21, y22, y23, y24, y25, y26, y27, y28, y29, y30, y31, y32, y33, y34, y35, y36, y37, y38, y39, y40, y41, y42, y43, y44, x45, x46, x47, x48, x49, x50, x51, x52, x53, x54, x55, x56, x57, x58, x59, x60, x61, x62, x63, x64, x65, x66, x67, x68, x69, x70, x71, x72, x73, x74, x75, x76, x77, x78, x79, x80, x81, x82, x83, x84, x85, x86, x87, x88, x89, x90, x91, x92, x93, x94, x95, x96, x97, x98, x99, x100, x101, x102, x103, x104, x105, x106, x107, x108, x109, x110, x111, x112, x113, x114, x115, x116, x117, x118, x119, x120, x121, x122, x123, x124, x125, x126, x127, x128, y129, y130, y131, y132, y133, y134, y135, y136], []⟩ w3) :
    pctRound.wp Tryd.prog Q ⟨#[y0, .string s, y2, y3, y4, y5, .string ⟨#[48, 49, 50, 51, 52, 53, 54, 55, 56, 57, 65, 66, 67, 68, 69, 70]⟩, .pointer (some ⟨B, 0, none⟩), .int .i64 (s.size : Int), .int .i64 (i : Int), .int .i64 (rs : Int), .int .i64 (T : Int), y12, y13, y14, y15, y16, y17, y18, y19, y20, y21, y22, y23, y24, y25, y26, y27, y28, y29, y30, y31, y32, y33, y34, y35, y36, y37, y38, y39, y40, y41, y42, y43, y44, y45, y46, y47, y48, y49, y50, y51, y52, y53, y54, y55, y56, y57, y58, y59, y60, y61, y62, y63, y64, y65, y66, y67, y68, y69, y70, y71, y72, y73, y74, y75, y76, y77, y78, y79, y80, y81, y82, y83, y84, y85, y86, y87, y88, y89, y90, y91, y92, y93, y94, y95, y96, y97, y98, y99, y100, y101, y102, y103, y104, y105, y106, y107, y108, y109, y110, y111, y112, y113, y114, y115, y116, y117, y118, y119, y120, y121, y122, y123, y124, y125, y126, y127, y128, y129, y130, y131, y132, y133, y134, y135, y136], []⟩ W := by
  have HK := Lib.hid hK
  have C18 := Lib.hid (dec_at s i r n hS hi W HT.out)
  have hin := hS.inn
  have hwd := hS.wide
  have hBW : B < W.heap.size := HB.out.lt
  clear hK
  conv => arg 2; whnf
  subst hr
  obtain rfl := low_sign hS (by omega)
  clear hS
  have tT : decide ((T : Int) ≤ (i : Int)) = false := by simp; omega
  have t2 : decide ((i : Int) + 2 < (s.size : Int)) = true := by simp; omega
  have hi1 : i + 1 < s.size := by omega
  have hi2 : i + 2 < s.size := by omega
  obtain ⟨a1, ha1⟩ : ∃ a, (nums s).getD (i + 1) 0 = a := ⟨_, rfl⟩
  obtain ⟨a2, ha2⟩ : ∃ a, (nums s).getD (i + 2) 0 = a := ⟨_, rfl⟩
  have g1 := at_num hi1 ha1
  have g2 := at_num hi2 ha2
  have b1 : a1 < 256 := by rw [← g1]; exact UInt8.toNat_lt _
  have b2 : a2 < 256 := by rw [← g2]; exact UInt8.toNat_lt _
  have D1 := Lib.hid (fun W : World => isHex_any a1 W b1)
  have D2 := Lib.hid (fun W : World => isHex_any a2 W b2)
  rw [ha1] at hh1
  rw [hh1] at D1
  rw [ha2] at hh2
  rw [hh2] at D2
  clear ha1 ha2 hh1 hh2
  have E37 : Hid ((37 : Int) = ((37 : Nat) : Int)) := Lib.hid rfl
  have E50 : Hid ((50 : Int) = ((50 : Nat) : Int)) := Lib.hid rfl
  have E53 : Hid ((53 : Int) = ((53 : Nat) : Int)) := Lib.hid rfl
  have xx2 : ((⟨#[48, 49, 50, 51, 52, 53, 54, 55, 56, 57, 65, 66, 67, 68, 69, 70]⟩ : ByteArray)[2]'(by decide)).toNat = 50 := rfl
  have xx5 : ((⟨#[48, 49, 50, 51, 52, 53, 54, 55, 56, 57, 65, 66, 67, 68, 69, 70]⟩ : ByteArray)[5]'(by decide)).toNat = 53 := rfl
  have hpl : (part s rs (i - rs)).length ≤ 300 := by rw [part_len (by omega)]; omega
  by_cases hri : rs < i
  · have hx1 : (s.extract rs i).size ≤ 1000000 := by simp; omega
    have HE := Lib.hid (ext_nums s rs i)
    go_wp2_with (first | (go_at_call 18; refine C18.out.mono ?_; rintro e w1 ⟨rfl, hb1⟩; have HB1 := Lib.hid (HB.out.below hb1); have HL1 : Hid (Below B W w1) := Lib.hid (hb1.mono (Nat.le_of_lt hBW)); clear hb1) | (go_at_call 19; (with_reducible refine (D1.out _).mono ?_); rintro e w8 ⟨rfl, rfl⟩) | (go_at_call 19; (with_reducible refine (D2.out _).mono ?_); rintro e w8 ⟨rfl, rfl⟩) | (go_at_call 16; refine (bld_string (s.extract rs i) HB1.out (by omega) hx1).mono ?_; rintro e w2 ⟨rfl, hq, hl⟩; have HB2 := Lib.hid hq; rw [HE.out] at HB2; have HL2 := Lib.hid (HL1.out.trans hl); clear hq hl) | (go_at_call 17; refine (bld_byte 53 _ (by rfl) HB5.out (by first | omega | (simp; omega))).mono ?_; rintro e w6 ⟨rfl, hq, hl⟩; have HB6 := Lib.hid hq; have HL6 := Lib.hid (HL5.out.trans hl); clear hq hl) | (go_at_call 17; refine (bld_byte 50 _ (by rfl) HB4.out (by first | omega | (simp; omega))).mono ?_; rintro e w5 ⟨rfl, hq, hl⟩; have HB5 := Lib.hid hq; have HL5 := Lib.hid (HL4.out.trans hl); clear hq hl) | (go_at_call 17; refine (bld_byte 37 _ (by rfl) HB2.out (by first | omega | (simp; omega))).mono ?_; rintro e w4 ⟨rfl, hq, hl⟩; have HB4 := Lib.hid hq; have HL4 := Lib.hid (HL2.out.trans hl); clear hq hl))
    exact HK.out _ _ _ _ _ _ _ _ _ _ _ _ _ _ _ _ _ _ _ _ _ _ _ _ _ _ _ _ _ _ _ _ _ _ _ _ _ _ _ _ _ _ _ _ _ _ _ _ _ _ _ _ _ _ _ _ _ _ _ _ _ _ _ _ _ _ _ _ _ _ _ _ _ _ _ _ _ _ _ _ _ _ _ _ _ _ _ _ _ (by go_num) (by go_num) (by simpa [List.append_assoc] using HB6) HL6
  · have t9 : decide ((rs : Int) < (i : Int)) = false := by simp; omega
    have hp0 : part s rs (i - rs) = [] := by rw [show i - rs = 0 by omega, part_zero]
    go_wp2_with (first | (go_at_call 18; refine C18.out.mono ?_; rintro e w1 ⟨rfl, hb1⟩; have HB1 := Lib.hid (HB.out.below hb1); have HL1 : Hid (Below B W w1) := Lib.hid (hb1.mono (Nat.le_of_lt hBW)); clear hb1) | (go_at_call 19; (with_reducible refine (D1.out _).mono ?_); rintro e w8 ⟨rfl, rfl⟩) | (go_at_call 19; (with_reducible refine (D2.out _).mono ?_); rintro e w8 ⟨rfl, rfl⟩) | (go_at_call 17; refine (bld_byte 53 _ (by rfl) HB5.out (by first | omega | (simp; omega))).mono ?_; rintro e w6 ⟨rfl, hq, hl⟩; have HB6 := Lib.hid hq; have HL6 := Lib.hid (HL5.out.trans hl); clear hq hl) | (go_at_call 17; refine (bld_byte 50 _ (by rfl) HB4.out (by first | omega | (simp; omega))).mono ?_; rintro e w5 ⟨rfl, hq, hl⟩; have HB5 := Lib.hid hq; have HL5 := Lib.hid (HL4.out.trans hl); clear hq hl) | (go_at_call 17; refine (bld_byte 37 _ (by rfl) HB1.out (by first | omega | (simp; omega))).mono ?_; rintro e w4 ⟨rfl, hq, hl⟩; have HB4 := Lib.hid hq; have HL4 := Lib.hid (HL1.out.trans hl); clear hq hl))
    exact HK.out _ _ _ _ _ _ _ _ _ _ _ _ _ _ _ _ _ _ _ _ _ _ _ _ _ _ _ _ _ _ _ _ _ _ _ _ _ _ _ _ _ _ _ _ _ _ _ _ _ _ _ _ _ _ _ _ _ _ _ _ _ _ _ _ _ _ _ _ _ _ _ _ _ _ _ _ _ _ _ _ _ _ _ _ _ _ _ _ _ (by go_num) (by go_num) (by rw [hp0, List.append_nil]; simpa [List.append_assoc] using HB6) HL6
set_option maxRecDepth 1000000 in
set_option maxHeartbeats 16000000 in
theorem rnd_raw (Q : Exit → Act → World → Prop) (s : ByteArray) (W : World) (B T : Nat) (acc : List Nat) (i rs r n : Nat) (y0 y2 y3 y4 y5 y12 y13 y14 y15 y16 y17 y18 y19 y20 y21 y22 y23 y24 y25 y26 y27 y28 y29 y30 y31 y32 y33 y34 y35 y36 y37 y38 y39 y40 y41 y42 y43 y44 y45 y46 y47 y48 y49 y50 y51 y52 y53 y54 y55 y56 y57 y58 y59 y60 y61 y62 y63 y64 y65 y66 y67 y68 y69 y70 y71 y72 y73 y74 y75 y76 y77 y78 y79 y80 y81 y82 y83 y84 y85 y86 y87 y88 y89 y90 y91 y92 y93 y94 y95 y96 y97 y98 y99 y100 y101 y102 y103 y104 y105 y106 y107 y108 y109 y110 y111 y112 y113 y114 y115 y116 y117 y118 y119 y120 y121 y122 y123 y124 y125 y126 y127 y128 y129 y130 y131 y132 y133 y134 y135 y136 : Value) (HB : Hid (Bld B acc W)) (hB2 : 2 ≤ B) (HT : Hid (Lib.Utf8Tabs 0 1 W)) (hal : acc.length ≤ 10000) (hs : s.size ≤ 300) (hi : i < s.size) (hrs : rs ≤ i) (hS : Sign s i r n) (hT : i < T) (hr : r ≠ 9 ∧ r ≠ 10 ∧ r ≠ 13 ∧ r ≠ 35 ∧ r ≠ 37) (h65 : r ≠ 65533)
    (hK : ∀ (iv rv : Value) (w3 : World) (x13 x14 x45 x46 x47 x48 x49 x50 x51 x52 x53 x54 x55 x56 x57 x58 x59 x60 x61 x62 x63 x64 x65 x66 x67 x68 x69 x70 x71 x72 x73 x74 x75 x76 x77 x78 x79 x80 x81 x82 x83 x84 x85 x86 x87 x88 x89 x90 x91 x92 x93 x94 x95 x96 x97 x98 x99 x100 x101 x102 x103 x104 x105 x106 x107 x108 x109 x110 x111 x112 x113 x114 x115 x116 x117 x118 x119 x120 x121 x122 x123 x124 x125 x126 x127 x128 : Value), iv = .int .i64 ((i + n : Nat) : Int) → rv = .int .i64 ((rs : Nat) : Int) → Hid (Bld B (acc) w3) → Hid (Below B W w3) →
      Q .normal ⟨#[y0, .string s, y2, y3, y4, y5, .string ⟨#[48, 49, 50, 51, 52, 53, 54, 55, 56, 57, 65, 66, 67, 68, 69, 70]⟩, .pointer (some ⟨B, 0, none⟩), .int .i64 (s.size : Int), iv, rv, .int .i64 (T : Int), y12, x13, x14, y15, y16, y17, y18, y19, y20, y21, y22, y23, y24, y25, y26, y27, y28, y29, y30, y31, y32, y33, y34, y35, y36, y37, y38, y39, y40, y41, y42, y43, y44, x45, x46, x47, x48, x49, x50, x51, x52, x53, x54, x55, x56, x57, x58, x59, x60, x61, x62, x63, x64, x65, x66, x67, x68, x69, x70, x71, x72, x73, x74, x75, x76, x77, x78, x79, x80, x81, x82, x83, x84, x85, x86, x87, x88, x89, x90, x91, x92, x93, x94, x95, x96, x97, x98, x99, x100, x101, x102, x103, x104, x105, x106, x107, x108, x109, x110, x111, x112, x113, x114, x115, x116, x117, x118, x119, x120, x121, x122, x123, x124, x125, x126, x127, x128, y129, y130, y131, y132, y133, y134, y135, y136], []⟩ w3) :
    pctRound.wp Tryd.prog Q ⟨#[y0, .string s, y2, y3, y4, y5, .string ⟨#[48, 49, 50, 51, 52, 53, 54, 55, 56, 57, 65, 66, 67, 68, 69, 70]⟩, .pointer (some ⟨B, 0, none⟩), .int .i64 (s.size : Int), .int .i64 (i : Int), .int .i64 (rs : Int), .int .i64 (T : Int), y12, y13, y14, y15, y16, y17, y18, y19, y20, y21, y22, y23, y24, y25, y26, y27, y28, y29, y30, y31, y32, y33, y34, y35, y36, y37, y38, y39, y40, y41, y42, y43, y44, y45, y46, y47, y48, y49, y50, y51, y52, y53, y54, y55, y56, y57, y58, y59, y60, y61, y62, y63, y64, y65, y66, y67, y68, y69, y70, y71, y72, y73, y74, y75, y76, y77, y78, y79, y80, y81, y82, y83, y84, y85, y86, y87, y88, y89, y90, y91, y92, y93, y94, y95, y96, y97, y98, y99, y100, y101, y102, y103, y104, y105, y106, y107, y108, y109, y110, y111, y112, y113, y114, y115, y116, y117, y118, y119, y120, y121, y122, y123, y124, y125, y126, y127, y128, y129, y130, y131, y132, y133, y134, y135, y136], []⟩ W := by
  have HK := Lib.hid hK
  have C18 := Lib.hid (dec_at s i r n hS hi W HT.out)
  have hin := hS.inn
  have hwd := hS.wide
  have hBW : B < W.heap.size := HB.out.lt
  clear hK
  conv => arg 2; whnf
  have tT : decide ((T : Int) ≤ (i : Int)) = false := by simp; omega
  have f9 : ((r : Int) == 9) = false := by simp; omega
  have f10 : ((r : Int) == 10) = false := by simp; omega
  have f13 : ((r : Int) == 13) = false := by simp; omega
  have f35 : ((r : Int) == 35) = false := by simp; omega
  have f37 : ((r : Int) == 37) = false := by simp; omega
  have f0 : ((r : Int) == 65533) = false := by simp; omega
  clear hS
  go_wp2_with (first | (go_at_call 18; refine C18.out.mono ?_; rintro e w1 ⟨rfl, hb1⟩; have HB1 := Lib.hid (HB.out.below hb1); have HL1 : Hid (Below B W w1) := Lib.hid (hb1.mono (Nat.le_of_lt hBW)); clear hb1))
  exact HK.out _ _ _ _ _ _ _ _ _ _ _ _ _ _ _ _ _ _ _ _ _ _ _ _ _ _ _ _ _ _ _ _ _ _ _ _ _ _ _ _ _ _ _ _ _ _ _ _ _ _ _ _ _ _ _ _ _ _ _ _ _ _ _ _ _ _ _ _ _ _ _ _ _ _ _ _ _ _ _ _ _ _ _ _ _ _ _ _ _ (by go_num) rfl HB1 HL1
set_option maxRecDepth 1000000 in
set_option maxHeartbeats 16000000 in
theorem rnd_bad (Q : Exit → Act → World → Prop) (s : ByteArray) (W : World) (B T : Nat) (acc : List Nat) (i rs r n : Nat) (y0 y2 y3 y4 y5 y12 y13 y14 y15 y16 y17 y18 y19 y20 y21 y22 y23 y24 y25 y26 y27 y28 y29 y30 y31 y32 y33 y34 y35 y36 y37 y38 y39 y40 y41 y42 y43 y44 y45 y46 y47 y48 y49 y50 y51 y52 y53 y54 y55 y56 y57 y58 y59 y60 y61 y62 y63 y64 y65 y66 y67 y68 y69 y70 y71 y72 y73 y74 y75 y76 y77 y78 y79 y80 y81 y82 y83 y84 y85 y86 y87 y88 y89 y90 y91 y92 y93 y94 y95 y96 y97 y98 y99 y100 y101 y102 y103 y104 y105 y106 y107 y108 y109 y110 y111 y112 y113 y114 y115 y116 y117 y118 y119 y120 y121 y122 y123 y124 y125 y126 y127 y128 y129 y130 y131 y132 y133 y134 y135 y136 : Value) (HB : Hid (Bld B acc W)) (hB2 : 2 ≤ B) (HT : Hid (Lib.Utf8Tabs 0 1 W)) (hal : acc.length ≤ 10000) (hs : s.size ≤ 300) (hi : i < s.size) (hrs : rs ≤ i) (hS : Sign s i r n) (hT : i < T) (hr : r = 65533)
    (hK : ∀ (iv rv : Value) (w3 : World) (x13 x14 x45 x46 x47 x48 x49 x50 x51 x52 x53 x54 x55 x56 x57 x58 x59 x60 x61 x62 x63 x64 x65 x66 x67 x68 x69 x70 x71 x72 x73 x74 x75 x76 x77 x78 x79 x80 x81 x82 x83 x84 x85 x86 x87 x88 x89 x90 x91 x92 x93 x94 x95 x96 x97 x98 x99 x100 x101 x102 x103 x104 x105 x106 x107 x108 x109 x110 x111 x112 x113 x114 x115 x116 x117 x118 x119 x120 x121 x122 x123 x124 x125 x126 x127 x128 : Value), iv = .int .i64 ((i + n : Nat) : Int) → rv = .int .i64 ((rs : Nat) : Int) → Hid (Bld B (acc) w3) → Hid (Below B W w3) →
      Q .normal ⟨#[y0, .string s, y2, y3, y4, y5, .string ⟨#[48, 49, 50, 51, 52, 53, 54, 55, 56, 57, 65, 66, 67, 68, 69, 70]⟩, .pointer (some ⟨B, 0, none⟩), .int .i64 (s.size : Int), iv, rv, .int .i64 (T : Int), y12, x13, x14, y15, y16, y17, y18, y19, y20, y21, y22, y23, y24, y25, y26, y27, y28, y29, y30, y31, y32, y33, y34, y35, y36, y37, y38, y39, y40, y41, y42, y43, y44, x45, x46, x47, x48, x49, x50, x51, x52, x53, x54, x55, x56, x57, x58, x59, x60, x61, x62, x63, x64, x65, x66, x67, x68, x69, x70, x71, x72, x73, x74, x75, x76, x77, x78, x79, x80, x81, x82, x83, x84, x85, x86, x87, x88, x89, x90, x91, x92, x93, x94, x95, x96, x97, x98, x99, x100, x101, x102, x103, x104, x105, x106, x107, x108, x109, x110, x111, x112, x113, x114, x115, x116, x117, x118, x119, x120, x121, x122, x123, x124, x125, x126, x127, x128, y129, y130, y131, y132, y133, y134, y135, y136], []⟩ w3) :
    pctRound.wp Tryd.prog Q ⟨#[y0, .string s, y2, y3, y4, y5, .string ⟨#[48, 49, 50, 51, 52, 53, 54, 55, 56, 57, 65, 66, 67, 68, 69, 70]⟩, .pointer (some ⟨B, 0, none⟩), .int .i64 (s.size : Int), .int .i64 (i : Int), .int .i64 (rs : Int), .int .i64 (T : Int), y12, y13, y14, y15, y16, y17, y18, y19, y20, y21, y22, y23, y24, y25, y26, y27, y28, y29, y30, y31, y32, y33, y34, y35, y36, y37, y38, y39, y40, y41, y42, y43, y44, y45, y46, y47, y48, y49, y50, y51, y52, y53, y54, y55, y56, y57, y58, y59, y60, y61, y62, y63, y64, y65, y66, y67, y68, y69, y70, y71, y72, y73, y74, y75, y76, y77, y78, y79, y80, y81, y82, y83, y84, y85, y86, y87, y88, y89, y90, y91, y92, y93, y94, y95, y96, y97, y98, y99, y100, y101, y102, y103, y104, y105, y106, y107, y108, y109, y110, y111, y112, y113, y114, y115, y116, y117, y118, y119, y120, y121, y122, y123, y124, y125, y126, y127, y128, y129, y130, y131, y132, y133, y134, y135, y136], []⟩ W := by
  have HK := Lib.hid hK
  have C18 := Lib.hid (dec_at s i r n hS hi W HT.out)
  have hin := hS.inn
  have hwd := hS.wide
  have hBW : B < W.heap.size := HB.out.lt
  clear hK
  conv => arg 2; whnf
  have tT : decide ((T : Int) ≤ (i : Int)) = false := by simp; omega
  subst hr
  have hn1 : 2 ≤ n := by
    rcases hS.kind with ⟨_, h, _⟩ | ⟨h, _, _⟩
    · omega
    · exact h
  have f0 : ((n : Int) == 1) = false := by simp; omega
  clear hS
  go_wp2_with (first | (go_at_call 18; refine C18.out.mono ?_; rintro e w1 ⟨rfl, hb1⟩; have HB1 := Lib.hid (HB.out.below hb1); have HL1 : Hid (Below B W w1) := Lib.hid (hb1.mono (Nat.le_of_lt hBW)); clear hb1))
  exact HK.out _ _ _ _ _ _ _ _ _ _ _ _ _ _ _ _ _ _ _ _ _ _ _ _ _ _ _ _ _ _ _ _ _ _ _ _ _ _ _ _ _ _ _ _ _ _ _ _ _ _ _ _ _ _ _ _ _ _ _ _ _ _ _ _ _ _ _ _ _ _ _ _ _ _ _ _ _ _ _ _ _ _ _ _ _ _ _ _ _ (by go_num) rfl HB1 HL1
set_option maxRecDepth 1000000 in
set_option maxHeartbeats 16000000 in
theorem rnd_raw37a (Q : Exit → Act → World → Prop) (s : ByteArray) (W : World) (B T : Nat) (acc : List Nat) (i rs r n : Nat) (y0 y2 y3 y4 y5 y12 y13 y14 y15 y16 y17 y18 y19 y20 y21 y22 y23 y24 y25 y26 y27 y28 y29 y30 y31 y32 y33 y34 y35 y36 y37 y38 y39 y40 y41 y42 y43 y44 y45 y46 y47 y48 y49 y50 y51 y52 y53 y54 y55 y56 y57 y58 y59 y60 y61 y62 y63 y64 y65 y66 y67 y68 y69 y70 y71 y72 y73 y74 y75 y76 y77 y78 y79 y80 y81 y82 y83 y84 y85 y86 y87 y88 y89 y90 y91 y92 y93 y94 y95 y96 y97 y98 y99 y100 y101 y102 y103 y104 y105 y106 y107 y108 y109 y110 y111 y112 y113 y114 y115 y116 y117 y118 y119 y120 y121 y122 y123 y124 y125 y126 y127 y128 y129 y130 y131 y132 y133 y134 y135 y136 : Value) (HB : Hid (Bld B acc W)) (hB2 : 2 ≤ B) (HT : Hid (Lib.Utf8Tabs 0 1 W)) (hal : acc.length ≤ 10000) (hs : s.size ≤ 300) (hi : i < s.size) (hrs : rs ≤ i) (hS : Sign s i r n) (hT : i < T) (hr : r = 37) (h2 : ¬ i + 2 < s.size)
    (hK : ∀ (iv rv : Value) (w3 : World) (x13 x14 x45 x46 x47 x48 x49 x50 x51 x52 x53 x54 x55 x56 x57 x58 x59 x60 x61 x62 x63 x64 x65 x66 x67 x68 x69 x70 x71 x72 x73 x74 x75 x76 x77 x78 x79 x80 x81 x82 x83 x84 x85 x86 x87 x88 x89 x90 x91 x92 x93 x94 x95 x96 x97 x98 x99 x100 x101 x102 x103 x104 x105 x106 x107 x108 x109 x110 x111 x112 x113 x114 x115 x116 x117 x118 x119 x120 x121 x122 x123 x124 x125 x126 x127 x128 : Value), iv = .int .i64 ((i + n : Nat) : Int) → rv = .int .i64 ((rs : Nat) : Int) → Hid (Bld B (acc) w3) → Hid (Below B W w3) →
      Q .normal ⟨#[y0, .string s, y2, y3, y4, y5, .string ⟨#[48, 49, 50, 51, 52, 53, 54, 55, 56, 57, 65, 66, 67, 68, 69, 70]⟩, .pointer (some ⟨B, 0, none⟩), .int .i64 (s.size : Int), iv, rv, .int .i64 (T : Int), y12, x13, x14, y15, y16, y17, y18, y19, y20, y21, y22, y23, y24, y25, y26, y27, y28, y29, y30, y31, y32, y33, y34, y35, y36, y37, y38, y39, y40, y41, y42, y43, y44, x45, x46, x47, x48, x49, x50, x51, x52, x53, x54, x55, x56, x57, x58, x59, x60, x61, x62, x63, x64, x65, x66, x67, x68, x69, x70, x71, x72, x73, x74, x75, x76, x77, x78, x79, x80, x81, x82, x83, x84, x85, x86, x87, x88, x89, x90, x91, x92, x93, x94, x95, x96, x97, x98, x99, x100, x101, x102, x103, x104, x105, x106, x107, x108, x109, x110, x111, x112, x113, x114, x115, x116, x117, x118, x119, x120, x121, x122, x123, x124, x125, x126, x127, x128, y129, y130, y131, y132, y133, y134, y135, y136], []⟩ w3) :
    pctRound.wp Tryd.prog Q ⟨#[y0, .string s, y2, y3, y4, y5, .string ⟨#[48, 49, 50, 51, 52, 53, 54, 55, 56, 57, 65, 66, 67, 68, 69, 70]⟩, .pointer (some ⟨B, 0, none⟩), .int .i64 (s.size : Int), .int .i64 (i : Int), .int .i64 (rs : Int), .int .i64 (T : Int), y12, y13, y14, y15, y16, y17, y18, y19, y20, y21, y22, y23, y24, y25, y26, y27, y28, y29, y30, y31, y32, y33, y34, y35, y36, y37, y38, y39, y40, y41, y42, y43, y44, y45, y46, y47, y48, y49, y50, y51, y52, y53, y54, y55, y56, y57, y58, y59, y60, y61, y62, y63, y64, y65, y66, y67, y68, y69, y70, y71, y72, y73, y74, y75, y76, y77, y78, y79, y80, y81, y82, y83, y84, y85, y86, y87, y88, y89, y90, y91, y92, y93, y94, y95, y96, y97, y98, y99, y100, y101, y102, y103, y104, y105, y106, y107, y108, y109, y110, y111, y112, y113, y114, y115, y116, y117, y118, y119, y120, y121, y122, y123, y124, y125, y126, y127, y128, y129, y130, y131, y132, y133, y134, y135, y136], []⟩ W := by
  have HK := Lib.hid hK
  have C18 := Lib.hid (dec_at s i r n hS hi W HT.out)
  have hin := hS.inn
  have hwd := hS.wide
  have hBW : B < W.heap.size := HB.out.lt
  clear hK
  conv => arg 2; whnf
  have tT : decide ((T : Int) ≤ (i : Int)) = false := by simp; omega
  subst hr
  have t2 : decide ((i : Int) + 2 < (s.size : Int)) = false := by simp; omega
  clear hS
  go_wp2_with (first | (go_at_call 18; refine C18.out.mono ?_; rintro e w1 ⟨rfl, hb1⟩; have HB1 := Lib.hid (HB.out.below hb1); have HL1 : Hid (Below B W w1) := Lib.hid (hb1.mono (Nat.le_of_lt hBW)); clear hb1))
  exact HK.out _ _ _ _ _ _ _ _ _ _ _ _ _ _ _ _ _ _ _ _ _ _ _ _ _ _ _ _ _ _ _ _ _ _ _ _ _ _ _ _ _ _ _ _ _ _ _ _ _ _ _ _ _ _ _ _ _ _ _ _ _ _ _ _ _ _ _ _ _ _ _ _ _ _ _ _ _ _ _ _ _ _ _ _ _ _ _ _ _ (by go_num) rfl HB1 HL1
set_option maxRecDepth 1000000 in
set_option maxHeartbeats 16000000 in
theorem rnd_raw37b (Q : Exit → Act → World → Prop) (s : ByteArray) (W : World) (B T : Nat) (acc : List Nat) (i rs r n : Nat) (y0 y2 y3 y4 y5 y12 y13 y14 y15 y16 y17 y18 y19 y20 y21 y22 y23 y24 y25 y26 y27 y28 y29 y30 y31 y32 y33 y34 y35 y36 y37 y38 y39 y40 y41 y42 y43 y44 y45 y46 y47 y48 y49 y50 y51 y52 y53 y54 y55 y56 y57 y58 y59 y60 y61 y62 y63 y64 y65 y66 y67 y68 y69 y70 y71 y72 y73 y74 y75 y76 y77 y78 y79 y80 y81 y82 y83 y84 y85 y86 y87 y88 y89 y90 y91 y92 y93 y94 y95 y96 y97 y98 y99 y100 y101 y102 y103 y104 y105 y106 y107 y108 y109 y110 y111 y112 y113 y114 y115 y116 y117 y118 y119 y120 y121 y122 y123 y124 y125 y126 y127 y128 y129 y130 y131 y132 y133 y134 y135 y136 : Value) (HB : Hid (Bld B acc W)) (hB2 : 2 ≤ B) (HT : Hid (Lib.Utf8Tabs 0 1 W)) (hal : acc.length ≤ 10000) (hs : s.size ≤ 300) (hi : i < s.size) (hrs : rs ≤ i) (hS : Sign s i r n) (hT : i < T) (hr : r = 37) (h2 : i + 2 < s.size) (hh1 : isHexN ((nums s).getD (i + 1) 0) = false)
    (hK : ∀ (iv rv : Value) (w3 : World) (x13 x14 x45 x46 x47 x48 x49 x50 x51 x52 x53 x54 x55 x56 x57 x58 x59 x60 x61 x62 x63 x64 x65 x66 x67 x68 x69 x70 x71 x72 x73 x74 x75 x76 x77 x78 x79 x80 x81 x82 x83 x84 x85 x86 x87 x88 x89 x90 x91 x92 x93 x94 x95 x96 x97 x98 x99 x100 x101 x102 x103 x104 x105 x106 x107 x108 x109 x110 x111 x112 x113 x114 x115 x116 x117 x118 x119 x120 x121 x122 x123 x124 x125 x126 x127 x128 : Value), iv = .int .i64 ((i + n : Nat) : Int) → rv = .int .i64 ((rs : Nat) : Int) → Hid (Bld B (acc) w3) → Hid (Below B W w3) →
      Q .normal ⟨#[y0, .string s, y2, y3, y4, y5, .string ⟨#[48, 49, 50, 51, 52, 53, 54, 55, 56, 57, 65, 66, 67, 68, 69, 70]⟩, .pointer (some ⟨B, 0, none⟩), .int .i64 (s.size : Int), iv, rv, .int .i64 (T : Int), y12, x13, x14, y15, y16, y17, y18, y19, y20, y21, y22, y23, y24, y25, y26, y27, y28, y29, y30, y31, y32, y33, y34, y35, y36, y37, y38, y39, y40, y41, y42, y43, y44, x45, x46, x47, x48, x49, x50, x51, x52, x53, x54, x55, x56, x57, x58, x59, x60, x61, x62, x63, x64, x65, x66, x67, x68, x69, x70, x71, x72, x73, x74, x75, x76, x77, x78, x79, x80, x81, x82, x83, x84, x85, x86, x87, x88, x89, x90, x91, x92, x93, x94, x95, x96, x97, x98, x99, x100, x101, x102, x103, x104, x105, x106, x107, x108, x109, x110, x111, x112, x113, x114, x115, x116, x117, x118, x119, x120, x121, x122, x123, x124, x125, x126, x127, x128, y129, y130, y131, y132, y133, y134, y135, y136], []⟩ w3) :
    pctRound.wp Tryd.prog Q ⟨#[y0, .string s, y2, y3, y4, y5, .string ⟨#[48, 49, 50, 51, 52, 53, 54, 55, 56, 57, 65, 66, 67, 68, 69, 70]⟩, .pointer (some ⟨B, 0, none⟩), .int .i64 (s.size : Int), .int .i64 (i : Int), .int .i64 (rs : Int), .int .i64 (T : Int), y12, y13, y14, y15, y16, y17, y18, y19, y20, y21, y22, y23, y24, y25, y26, y27, y28, y29, y30, y31, y32, y33, y34, y35, y36, y37, y38, y39, y40, y41, y42, y43, y44, y45, y46, y47, y48, y49, y50, y51, y52, y53, y54, y55, y56, y57, y58, y59, y60, y61, y62, y63, y64, y65, y66, y67, y68, y69, y70, y71, y72, y73, y74, y75, y76, y77, y78, y79, y80, y81, y82, y83, y84, y85, y86, y87, y88, y89, y90, y91, y92, y93, y94, y95, y96, y97, y98, y99, y100, y101, y102, y103, y104, y105, y106, y107, y108, y109, y110, y111, y112, y113, y114, y115, y116, y117, y118, y119, y120, y121, y122, y123, y124, y125, y126, y127, y128, y129, y130, y131, y132, y133, y134, y135, y136], []⟩ W := by
  have HK := Lib.hid hK
  have C18 := Lib.hid (dec_at s i r n hS hi W HT.out)
  have hin := hS.inn
  have hwd := hS.wide
  have hBW : B < W.heap.size := HB.out.lt
  clear hK
  conv => arg 2; whnf
  have tT : decide ((T : Int) ≤ (i : Int)) = false := by simp; omega
  subst hr
  have t2 : decide ((i : Int) + 2 < (s.size : Int)) = true := by simp; omega
  have hi1 : i + 1 < s.size := by omega
  have hi2 : i + 2 < s.size := by omega
  obtain ⟨a1, ha1⟩ : ∃ a, (nums s).getD (i + 1) 0 = a := ⟨_, rfl⟩
  obtain ⟨a2, ha2⟩ : ∃ a, (nums s).getD (i + 2) 0 = a := ⟨_, rfl⟩
  have g1 := at_num hi1 ha1
  have g2 := at_num hi2 ha2
  have b1 : a1 < 256 := by rw [← g1]; exact UInt8.toNat_lt _
  have b2 : a2 < 256 := by rw [← g2]; exact UInt8.toNat_lt _
  have D1 := Lib.hid (fun W : World => isHex_any a1 W b1)
  have D2 := Lib.hid (fun W : World => isHex_any a2 W b2)
  rw [ha1] at hh1
  rw [hh1] at D1
  clear ha1 ha2 hh1
  clear hS
  go_wp2_with (first | (go_at_call 18; refine C18.out.mono ?_; rintro e w1 ⟨rfl, hb1⟩; have HB1 := Lib.hid (HB.out.below hb1); have HL1 : Hid (Below B W w1) := Lib.hid (hb1.mono (Nat.le_of_lt hBW)); clear hb1) | (go_at_call 19; (with_reducible refine (D1.out _).mono ?_); rintro e w8 ⟨rfl, rfl⟩))
  exact HK.out _ _ _ _ _ _ _ _ _ _ _ _ _ _ _ _ _ _ _ _ _ _ _ _ _ _ _ _ _ _ _ _ _ _ _ _ _ _ _ _ _ _ _ _ _ _ _ _ _ _ _ _ _ _ _ _ _ _ _ _ _ _ _ _ _ _ _ _ _ _ _ _ _ _ _ _ _ _ _ _ _ _ _ _ _ _ _ _ _ (by go_num) rfl HB1 HL1
set_option maxRecDepth 1000000 in
set_option maxHeartbeats 16000000 in
theorem rnd_raw37c (Q : Exit → Act → World → Prop) (s : ByteArray) (W : World) (B T : Nat) (acc : List Nat) (i rs r n : Nat) (y0 y2 y3 y4 y5 y12 y13 y14 y15 y16 y17 y18 y19 y20 y21 y22 y23 y24 y25 y26 y27 y28 y29 y30 y31 y32 y33 y34 y35 y36 y37 y38 y39 y40 y41 y42 y43 y44 y45 y46 y47 y48 y49 y50 y51 y52 y53 y54 y55 y56 y57 y58 y59 y60 y61 y62 y63 y64 y65 y66 y67 y68 y69 y70 y71 y72 y73 y74 y75 y76 y77 y78 y79 y80 y81 y82 y83 y84 y85 y86 y87 y88 y89 y90 y91 y92 y93 y94 y95 y96 y97 y98 y99 y100 y101 y102 y103 y104 y105 y106 y107 y108 y109 y110 y111 y112 y113 y114 y115 y116 y117 y118 y119 y120 y121 y122 y123 y124 y125 y126 y127 y128 y129 y130 y131 y132 y133 y134 y135 y136 : Value) (HB : Hid (Bld B acc W)) (hB2 : 2 ≤ B) (HT : Hid (Lib.Utf8Tabs 0 1 W)) (hal : acc.length ≤ 10000) (hs : s.size ≤ 300) (hi : i < s.size) (hrs : rs ≤ i) (hS : Sign s i r n) (hT : i < T) (hr : r = 37) (h2 : i + 2 < s.size) (hh1 : isHexN ((nums s).getD (i + 1) 0) = true) (hh2 : isHexN ((nums s).getD (i + 2) 0) = false)
    (hK : ∀ (iv rv : Value) (w3 : World) (x13 x14 x45 x46 x47 x48 x49 x50 x51 x52 x53 x54 x55 x56 x57 x58 x59 x60 x61 x62 x63 x64 x65 x66 x67 x68 x69 x70 x71 x72 x73 x74 x75 x76 x77 x78 x79 x80 x81 x82 x83 x84 x85 x86 x87 x88 x89 x90 x91 x92 x93 x94 x95 x96 x97 x98 x99 x100 x101 x102 x103 x104 x105 x106 x107 x108 x109 x110 x111 x112 x113 x114 x115 x116 x117 x118 x119 x120 x121 x122 x123 x124 x125 x126 x127 x128 : Value), iv = .int .i64 ((i + n : Nat) : Int) → rv = .int .i64 ((rs : Nat) : Int) → Hid (Bld B (acc) w3) → Hid (Below B W w3) →
      Q .normal ⟨#[y0, .string s, y2, y3, y4, y5, .string ⟨#[48, 49, 50, 51, 52, 53, 54, 55, 56, 57, 65, 66, 67, 68, 69, 70]⟩, .pointer (some ⟨B, 0, none⟩), .int .i64 (s.size : Int), iv, rv, .int .i64 (T : Int), y12, x13, x14, y15, y16, y17, y18, y19, y20, y21, y22, y23, y24, y25, y26, y27, y28, y29, y30, y31, y32, y33, y34, y35, y36, y37, y38, y39, y40, y41, y42, y43, y44, x45, x46, x47, x48, x49, x50, x51, x52, x53, x54, x55, x56, x57, x58, x59, x60, x61, x62, x63, x64, x65, x66, x67, x68, x69, x70, x71, x72, x73, x74, x75, x76, x77, x78, x79, x80, x81, x82, x83, x84, x85, x86, x87, x88, x89, x90, x91, x92, x93, x94, x95, x96, x97, x98, x99, x100, x101, x102, x103, x104, x105, x106, x107, x108, x109, x110, x111, x112, x113, x114, x115, x116, x117, x118, x119, x120, x121, x122, x123, x124, x125, x126, x127, x128, y129, y130, y131, y132, y133, y134, y135, y136], []⟩ w3) :
    pctRound.wp Tryd.prog Q ⟨#[y0, .string s, y2, y3, y4, y5, .string ⟨#[48, 49, 50, 51, 52, 53, 54, 55, 56, 57, 65, 66, 67, 68, 69, 70]⟩, .pointer (some ⟨B, 0, none⟩), .int .i64 (s.size : Int), .int .i64 (i : Int), .int .i64 (rs : Int), .int .i64 (T : Int), y12, y13, y14, y15, y16, y17, y18, y19, y20, y21, y22, y23, y24, y25, y26, y27, y28, y29, y30, y31, y32, y33, y34, y35, y36, y37, y38, y39, y40, y41, y42, y43, y44, y45, y46, y47, y48, y49, y50, y51, y52, y53, y54, y55, y56, y57, y58, y59, y60, y61, y62, y63, y64, y65, y66, y67, y68, y69, y70, y71, y72, y73, y74, y75, y76, y77, y78, y79, y80, y81, y82, y83, y84, y85, y86, y87, y88, y89, y90, y91, y92, y93, y94, y95, y96, y97, y98, y99, y100, y101, y102, y103, y104, y105, y106, y107, y108, y109, y110, y111, y112, y113, y114, y115, y116, y117, y118, y119, y120, y121, y122, y123, y124, y125, y126, y127, y128, y129, y130, y131, y132, y133, y134, y135, y136], []⟩ W := by
  have HK := Lib.hid hK
  have C18 := Lib.hid (dec_at s i r n hS hi W HT.out)
  have hin := hS.inn
  have hwd := hS.wide
  have hBW : B < W.heap.size := HB.out.lt
  clear hK
  conv => arg 2; whnf
  have tT : decide ((T : Int) ≤ (i : Int)) = false := by simp; omega
  subst hr
  have t2 : decide ((i : Int) + 2 < (s.size : Int)) = true := by simp; omega
  have hi1 : i + 1 < s.size := by omega
  have hi2 : i + 2 < s.size := by omega
  obtain ⟨a1, ha1⟩ : ∃ a, (nums s).getD (i + 1) 0 = a := ⟨_, rfl⟩
  obtain ⟨a2, ha2⟩ : ∃ a, (nums s).getD (i + 2) 0 = a := ⟨_, rfl⟩
  have g1 := at_num hi1 ha1
  have g2 := at_num hi2 ha2
  have b1 : a1 < 256 := by rw [← g1]; exact UInt8.toNat_lt _
  have b2 : a2 < 256 := by rw [← g2]; exact UInt8.toNat_lt _
  have D1 := Lib.hid (fun W : World => isHex_any a1 W b1)
  have D2 := Lib.hid (fun W : World => isHex_any a2 W b2)
  rw [ha1] at hh1
  rw [hh1] at D1
  rw [ha2] at hh2
  rw [hh2] at D2
  clear ha1 ha2 hh1 hh2
  clear hS
  go_wp2_with (first | (go_at_call 18; refine C18.out.mono ?_; rintro e w1 ⟨rfl, hb1⟩; have HB1 := Lib.hid (HB.out.below hb1); have HL1 : Hid (Below B W w1) := Lib.hid (hb1.mono (Nat.le_of_lt hBW)); clear hb1) | (go_at_call 19; (with_reducible refine (D1.out _).mono ?_); rintro e w8 ⟨rfl, rfl⟩) | (go_at_call 19; (with_reducible refine (D2.out _).mono ?_); rintro e w8 ⟨rfl, rfl⟩))
  exact HK.out _ _ _ _ _ _ _ _ _ _ _ _ _ _ _ _ _ _ _ _ _ _ _ _ _ _ _ _ _ _ _ _ _ _ _ _ _ _ _ _ _ _ _ _ _ _ _ _ _ _ _ _ _ _ _ _ _ _ _ _ _ _ _ _ _ _ _ _ _ _ _ _ _ _ _ _ _ _ _ _ _ _ _ _ _ _ _ _ _ (by go_num) rfl HB1 HL1
end Go.Proofs.YtmfbnmjmgpafmaaDoor
