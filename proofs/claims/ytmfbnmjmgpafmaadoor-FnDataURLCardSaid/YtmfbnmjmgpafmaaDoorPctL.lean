/- EncodeStringAsPercentEscapedDataURL: its second loop. -/
import Derived.Test.YtmfbnmjmgpafmaaDoorPctR
import Derived.Test.YtmfbnmjmgpafmaaDoorPctB
namespace Go.Proofs.YtmfbnmjmgpafmaaDoor
open Go.RowKit
set_option linter.unusedVariables false
set_option linter.unusedSimpArgs false
set_option maxRecDepth 1000000 in
set_option maxHeartbeats 16000000 in
theorem pct_loop (Q : Exit → Act → World → Prop) (s : ByteArray) (W0 : World) (B T : Nat) (hd : List Nat) (y0 y2 y3 y4 y5 y12 y13 y14 y15 y16 y17 y18 y19 y20 y21 y22 y23 y24 y25 y26 y27 y28 y29 y30 y31 y32 y33 y34 y35 y36 y37 y38 y39 y40 y41 y42 y43 y44 y45 y46 y47 y48 y49 y50 y51 y52 y53 y54 y55 y56 y57 y58 y59 y60 y61 y62 y63 y64 y65 y66 y67 y68 y69 y70 y71 y72 y73 y74 y75 y76 y77 y78 y79 y80 y81 y82 y83 y84 y85 y86 y87 y88 y89 y90 y91 y92 y93 y94 y95 y96 y97 y98 y99 y100 y101 y102 y103 y104 y105 y106 y107 y108 y109 y110 y111 y112 y113 y114 y115 y116 y117 y118 y119 y120 y121 y122 y123 y124 y125 y126 y127 y128 y129 y130 y131 y132 y133 y134 y135 y136 : Value) (HB : Hid (Bld B hd W0)) (hB2 : 2 ≤ B) (HT : Hid (Lib.Utf8Tabs 0 1 W0)) (hal : hd.length ≤ 1000) (hs : s.size ≤ 300) (ht : Tail (nums s) T) (hg : Good s 0)
    (hK : ∀ (acc : List Nat) (rs : Nat) (w3 : World) (x4 x5 x13 x14 x45 x46 x47 x48 x49 x50 x51 x52 x53 x54 x55 x56 x57 x58 x59 x60 x61 x62 x63 x64 x65 x66 x67 x68 x69 x70 x71 x72 x73 x74 x75 x76 x77 x78 x79 x80 x81 x82 x83 x84 x85 x86 x87 x88 x89 x90 x91 x92 x93 x94 x95 x96 x97 x98 x99 x100 x101 x102 x103 x104 x105 x106 x107 x108 x109 x110 x111 x112 x113 x114 x115 x116 x117 x118 x119 x120 x121 x122 x123 x124 x125 x126 x127 x128 : Value), PSt s T hd acc rs s.size → acc.length ≤ 2000 → Hid (Bld B acc w3) → Hid (Below B W0 w3) →
      Q (.exit 2) ⟨#[y0, .string s, y2, y3, x4, x5, .string ⟨#[48, 49, 50, 51, 52, 53, 54, 55, 56, 57, 65, 66, 67, 68, 69, 70]⟩, .pointer (some ⟨B, 0, none⟩), .int .i64 (s.size : Int), .int .i64 (s.size : Int), .int .i64 (rs : Int), .int .i64 (T : Int), y12, x13, x14, y15, y16, y17, y18, y19, y20, y21, y22, y23, y24, y25, y26, y27, y28, y29, y30, y31, y32, y33, y34, y35, y36, y37, y38, y39, y40, y41, y42, y43, y44, x45, x46, x47, x48, x49, x50, x51, x52, x53, x54, x55, x56, x57, x58, x59, x60, x61, x62, x63, x64, x65, x66, x67, x68, x69, x70, x71, x72, x73, x74, x75, x76, x77, x78, x79, x80, x81, x82, x83, x84, x85, x86, x87, x88, x89, x90, x91, x92, x93, x94, x95, x96, x97, x98, x99, x100, x101, x102, x103, x104, x105, x106, x107, x108, x109, x110, x111, x112, x113, x114, x115, x116, x117, x118, x119, x120, x121, x122, x123, x124, x125, x126, x127, x128, y129, y130, y131, y132, y133, y134, y135, y136], []⟩ w3) :
    (Code.loop pctRound).wp Tryd.prog Q ⟨#[y0, .string s, y2, y3, y4, y5, .string ⟨#[48, 49, 50, 51, 52, 53, 54, 55, 56, 57, 65, 66, 67, 68, 69, 70]⟩, .pointer (some ⟨B, 0, none⟩), .int .i64 (s.size : Int), .int .i64 (0 : Int), .int .i64 (0 : Int), .int .i64 (T : Int), y12, y13, y14, y15, y16, y17, y18, y19, y20, y21, y22, y23, y24, y25, y26, y27, y28, y29, y30, y31, y32, y33, y34, y35, y36, y37, y38, y39, y40, y41, y42, y43, y44, y45, y46, y47, y48, y49, y50, y51, y52, y53, y54, y55, y56, y57, y58, y59, y60, y61, y62, y63, y64, y65, y66, y67, y68, y69, y70, y71, y72, y73, y74, y75, y76, y77, y78, y79, y80, y81, y82, y83, y84, y85, y86, y87, y88, y89, y90, y91, y92, y93, y94, y95, y96, y97, y98, y99, y100, y101, y102, y103, y104, y105, y106, y107, y108, y109, y110, y111, y112, y113, y114, y115, y116, y117, y118, y119, y120, y121, y122, y123, y124, y125, y126, y127, y128, y129, y130, y131, y132, y133, y134, y135, y136], []⟩ W0 := by
  have HK := Lib.hid hK
  have HG0 := Lib.hid hg
  have HTl := Lib.hid ht
  clear hK hg ht
  have HB0 := HB
  try dsimp only
  conv => arg 2; arg 1; whnf
  go_loopw [9, 10] (fun iv rv W => ∃ (i rs : Nat) (acc : List Nat), iv = .int .i64 (i : Int) ∧ rv = .int .i64 (rs : Int) ∧ Hid (Good s i) ∧ Hid (PSt s T hd acc rs i) ∧ Hid (Bld B acc W) ∧ Hid (Below B W0 W)) (fun iv _ _ => s.size - (intOf iv).toNat)
  case atStart => exact ⟨0, 0, hd, rfl, rfl, HG0, Lib.hid (pst_start s T hd), HB0, Lib.hid (Below.refl B W0)⟩
  case round =>
    clear HB0 HB
    obtain ⟨i, rs, acc, rfl, rfl, HG, HP, HB, HBL⟩ := hrel
    rename World => W
    have hrs : rs ≤ i := HP.out.1
    have hle : i ≤ s.size := HP.out.2.1
    have hal2 : acc.length ≤ 10000 := by have := HP.out.len; omega
    by_cases hps : i < s.size
    · obtain ⟨hS, hG2⟩ := good_sign HG.out hps
      generalize hr : (Utf8.decode s i).1 = r at hS hG2
      generalize hdd : (Utf8.decode s i).2 = n at hS hG2
      clear hr hdd
      have hin := hS.inn
      have hwd := hS.wide
      have HT2 : Hid (Lib.Utf8Tabs 0 1 W) := Lib.hid (tabs_below HT.out (by omega) HBL.out)
      have HG2 := Lib.hid hG2
      clear hG2
      by_cases hTi : T ≤ i
      · have h32 := sign_space hS HTl.out hps hTi
        · refine rnd_32 _ s W B T acc i rs r n _ _ _ _ _ _ _ _ _ _ _ _ _ _ _ _ _ _ _ _ _ _ _ _ _ _ _ _ _ _ _ _ _ _ _ _ _ _ _ _ _ _ _ _ _ _ _ _ _ _ _ _ _ _ _ _ _ _ _ _ _ _ _ _ _ _ _ _ _ _ _ _ _ _ _ _ _ _ _ _ _ _ _ _ _ _ _ _ _ _ _ _ _ _ _ _ _ _ _ _ _ _ _ _ _ _ _ _ _ _ _ _ _ _ _ _ _ _ _ _ _ _ _ _ _ _ _ _ _ _ HB hB2 HT2 hal2 hs hps hrs hS h32 hTi ?_
          intro iv rv w3 z13 z14 z45 z46 z47 z48 z49 z50 z51 z52 z53 z54 z55 z56 z57 z58 z59 z60 z61 z62 z63 z64 z65 z66 z67 z68 z69 z70 z71 z72 z73 z74 z75 z76 z77 z78 z79 z80 z81 z82 z83 z84 z85 z86 z87 z88 z89 z90 z91 z92 z93 z94 z95 z96 z97 z98 z99 z100 z101 z102 z103 z104 z105 z106 z107 z108 z109 z110 z111 z112 z113 z114 z115 z116 z117 z118 z119 z120 z121 z122 z123 z124 z125 z126 z127 z128 hiv hrv HB3 HL3
          subst hiv hrv
          have HP3 := Lib.hid (by have := HP.out.signE hS hps (by omega) (.inr (.inr (.inr (.inr (.inl hTi))))); rw [h32] at this; exact this)
          have HG3 : Hid (Good s (i + 1)) := by have := low_sign hS (by omega); subst this; exact HG2
          have HL4 : Hid (Below B W0 w3) := Lib.hid (HBL.out.trans HL3.out)
          go_roundw
          case rel => (repeat apply Exists.intro); exact ⟨⟨i + 1, _, _, rfl, rfl, HG3, HP3, HB3, HL4⟩, rfl⟩
          case measure => simp [intOf]; omega
      · have hTi2 : i < T := by omega
        rcases (show r = 9 ∨ r = 10 ∨ r = 13 ∨ r = 35 ∨ r = 37 ∨ r = 65533 ∨ ((r ≠ 9 ∧ r ≠ 10 ∧ r ≠ 13 ∧ r ≠ 35 ∧ r ≠ 37) ∧ r ≠ 65533) by omega) with hr | hr | hr | hr | hr | hr | ⟨hr, h65⟩
        · refine rnd_9 _ s W B T acc i rs r n _ _ _ _ _ _ _ _ _ _ _ _ _ _ _ _ _ _ _ _ _ _ _ _ _ _ _ _ _ _ _ _ _ _ _ _ _ _ _ _ _ _ _ _ _ _ _ _ _ _ _ _ _ _ _ _ _ _ _ _ _ _ _ _ _ _ _ _ _ _ _ _ _ _ _ _ _ _ _ _ _ _ _ _ _ _ _ _ _ _ _ _ _ _ _ _ _ _ _ _ _ _ _ _ _ _ _ _ _ _ _ _ _ _ _ _ _ _ _ _ _ _ _ _ _ _ _ _ _ _ HB hB2 HT2 hal2 hs hps hrs hS hr  ?_
          intro iv rv w3 z13 z14 z45 z46 z47 z48 z49 z50 z51 z52 z53 z54 z55 z56 z57 z58 z59 z60 z61 z62 z63 z64 z65 z66 z67 z68 z69 z70 z71 z72 z73 z74 z75 z76 z77 z78 z79 z80 z81 z82 z83 z84 z85 z86 z87 z88 z89 z90 z91 z92 z93 z94 z95 z96 z97 z98 z99 z100 z101 z102 z103 z104 z105 z106 z107 z108 z109 z110 z111 z112 z113 z114 z115 z116 z117 z118 z119 z120 z121 z122 z123 z124 z125 z126 z127 z128 hiv hrv HB3 HL3
          subst hiv hrv
          have HP3 := Lib.hid (by have := HP.out.signE hS hps (by omega) (.inl hr); rw [hr] at this; exact this)
          have HG3 : Hid (Good s (i + 1)) := by have := low_sign hS (by omega); subst this; exact HG2
          have HL4 : Hid (Below B W0 w3) := Lib.hid (HBL.out.trans HL3.out)
          go_roundw
          case rel => (repeat apply Exists.intro); exact ⟨⟨i + 1, _, _, rfl, rfl, HG3, HP3, HB3, HL4⟩, rfl⟩
          case measure => simp [intOf]; omega
        · refine rnd_10 _ s W B T acc i rs r n _ _ _ _ _ _ _ _ _ _ _ _ _ _ _ _ _ _ _ _ _ _ _ _ _ _ _ _ _ _ _ _ _ _ _ _ _ _ _ _ _ _ _ _ _ _ _ _ _ _ _ _ _ _ _ _ _ _ _ _ _ _ _ _ _ _ _ _ _ _ _ _ _ _ _ _ _ _ _ _ _ _ _ _ _ _ _ _ _ _ _ _ _ _ _ _ _ _ _ _ _ _ _ _ _ _ _ _ _ _ _ _ _ _ _ _ _ _ _ _ _ _ _ _ _ _ _ _ _ _ HB hB2 HT2 hal2 hs hps hrs hS hr  ?_
          intro iv rv w3 z13 z14 z45 z46 z47 z48 z49 z50 z51 z52 z53 z54 z55 z56 z57 z58 z59 z60 z61 z62 z63 z64 z65 z66 z67 z68 z69 z70 z71 z72 z73 z74 z75 z76 z77 z78 z79 z80 z81 z82 z83 z84 z85 z86 z87 z88 z89 z90 z91 z92 z93 z94 z95 z96 z97 z98 z99 z100 z101 z102 z103 z104 z105 z106 z107 z108 z109 z110 z111 z112 z113 z114 z115 z116 z117 z118 z119 z120 z121 z122 z123 z124 z125 z126 z127 z128 hiv hrv HB3 HL3
          subst hiv hrv
          have HP3 := Lib.hid (by have := HP.out.signE hS hps (by omega) (.inr (.inl hr)); rw [hr] at this; exact this)
          have HG3 : Hid (Good s (i + 1)) := by have := low_sign hS (by omega); subst this; exact HG2
          have HL4 : Hid (Below B W0 w3) := Lib.hid (HBL.out.trans HL3.out)
          go_roundw
          case rel => (repeat apply Exists.intro); exact ⟨⟨i + 1, _, _, rfl, rfl, HG3, HP3, HB3, HL4⟩, rfl⟩
          case measure => simp [intOf]; omega
        · refine rnd_13 _ s W B T acc i rs r n _ _ _ _ _ _ _ _ _ _ _ _ _ _ _ _ _ _ _ _ _ _ _ _ _ _ _ _ _ _ _ _ _ _ _ _ _ _ _ _ _ _ _ _ _ _ _ _ _ _ _ _ _ _ _ _ _ _ _ _ _ _ _ _ _ _ _ _ _ _ _ _ _ _ _ _ _ _ _ _ _ _ _ _ _ _ _ _ _ _ _ _ _ _ _ _ _ _ _ _ _ _ _ _ _ _ _ _ _ _ _ _ _ _ _ _ _ _ _ _ _ _ _ _ _ _ _ _ _ _ HB hB2 HT2 hal2 hs hps hrs hS hr  ?_
          intro iv rv w3 z13 z14 z45 z46 z47 z48 z49 z50 z51 z52 z53 z54 z55 z56 z57 z58 z59 z60 z61 z62 z63 z64 z65 z66 z67 z68 z69 z70 z71 z72 z73 z74 z75 z76 z77 z78 z79 z80 z81 z82 z83 z84 z85 z86 z87 z88 z89 z90 z91 z92 z93 z94 z95 z96 z97 z98 z99 z100 z101 z102 z103 z104 z105 z106 z107 z108 z109 z110 z111 z112 z113 z114 z115 z116 z117 z118 z119 z120 z121 z122 z123 z124 z125 z126 z127 z128 hiv hrv HB3 HL3
          subst hiv hrv
          have HP3 := Lib.hid (by have := HP.out.signE hS hps (by omega) (.inr (.inr (.inl hr))); rw [hr] at this; exact this)
          have HG3 : Hid (Good s (i + 1)) := by have := low_sign hS (by omega); subst this; exact HG2
          have HL4 : Hid (Below B W0 w3) := Lib.hid (HBL.out.trans HL3.out)
          go_roundw
          case rel => (repeat apply Exists.intro); exact ⟨⟨i + 1, _, _, rfl, rfl, HG3, HP3, HB3, HL4⟩, rfl⟩
          case measure => simp [intOf]; omega
        · refine rnd_35 _ s W B T acc i rs r n _ _ _ _ _ _ _ _ _ _ _ _ _ _ _ _ _ _ _ _ _ _ _ _ _ _ _ _ _ _ _ _ _ _ _ _ _ _ _ _ _ _ _ _ _ _ _ _ _ _ _ _ _ _ _ _ _ _ _ _ _ _ _ _ _ _ _ _ _ _ _ _ _ _ _ _ _ _ _ _ _ _ _ _ _ _ _ _ _ _ _ _ _ _ _ _ _ _ _ _ _ _ _ _ _ _ _ _ _ _ _ _ _ _ _ _ _ _ _ _ _ _ _ _ _ _ _ _ _ _ HB hB2 HT2 hal2 hs hps hrs hS hr  ?_
          intro iv rv w3 z13 z14 z45 z46 z47 z48 z49 z50 z51 z52 z53 z54 z55 z56 z57 z58 z59 z60 z61 z62 z63 z64 z65 z66 z67 z68 z69 z70 z71 z72 z73 z74 z75 z76 z77 z78 z79 z80 z81 z82 z83 z84 z85 z86 z87 z88 z89 z90 z91 z92 z93 z94 z95 z96 z97 z98 z99 z100 z101 z102 z103 z104 z105 z106 z107 z108 z109 z110 z111 z112 z113 z114 z115 z116 z117 z118 z119 z120 z121 z122 z123 z124 z125 z126 z127 z128 hiv hrv HB3 HL3
          subst hiv hrv
          have HP3 := Lib.hid (by have := HP.out.signE hS hps (by omega) (.inr (.inr (.inr (.inl hr)))); rw [hr] at this; exact this)
          have HG3 : Hid (Good s (i + 1)) := by have := low_sign hS (by omega); subst this; exact HG2
          have HL4 : Hid (Below B W0 w3) := Lib.hid (HBL.out.trans HL3.out)
          go_roundw
          case rel => (repeat apply Exists.intro); exact ⟨⟨i + 1, _, _, rfl, rfl, HG3, HP3, HB3, HL4⟩, rfl⟩
          case measure => simp [intOf]; omega
        · by_cases h2 : i + 2 < s.size
          · cases hh1 : isHexN ((nums s).getD (i + 1) 0) with
            | true =>
              cases hh2 : isHexN ((nums s).getD (i + 2) 0) with
              | true =>
                · refine rnd_37 _ s W B T acc i rs r n _ _ _ _ _ _ _ _ _ _ _ _ _ _ _ _ _ _ _ _ _ _ _ _ _ _ _ _ _ _ _ _ _ _ _ _ _ _ _ _ _ _ _ _ _ _ _ _ _ _ _ _ _ _ _ _ _ _ _ _ _ _ _ _ _ _ _ _ _ _ _ _ _ _ _ _ _ _ _ _ _ _ _ _ _ _ _ _ _ _ _ _ _ _ _ _ _ _ _ _ _ _ _ _ _ _ _ _ _ _ _ _ _ _ _ _ _ _ _ _ _ _ _ _ _ _ _ _ _ _ HB hB2 HT2 hal2 hs hps hrs hS hr hTi2 h2 hh1 hh2 ?_
                  intro iv rv w3 z13 z14 z45 z46 z47 z48 z49 z50 z51 z52 z53 z54 z55 z56 z57 z58 z59 z60 z61 z62 z63 z64 z65 z66 z67 z68 z69 z70 z71 z72 z73 z74 z75 z76 z77 z78 z79 z80 z81 z82 z83 z84 z85 z86 z87 z88 z89 z90 z91 z92 z93 z94 z95 z96 z97 z98 z99 z100 z101 z102 z103 z104 z105 z106 z107 z108 z109 z110 z111 z112 z113 z114 z115 z116 z117 z118 z119 z120 z121 z122 z123 z124 z125 z126 z127 z128 hiv hrv HB3 HL3
                  subst hiv hrv
                  have HP3 := Lib.hid (by have := HP.out.signE hS hps (by omega) (.inr (.inr (.inr (.inr (.inr ⟨hr, h2, hh1, hh2⟩))))); rw [hr] at this; exact this)
                  have HG3 : Hid (Good s (i + 1)) := by have := low_sign hS (by omega); subst this; exact HG2
                  have HL4 : Hid (Below B W0 w3) := Lib.hid (HBL.out.trans HL3.out)
                  go_roundw
                  case rel => (repeat apply Exists.intro); exact ⟨⟨i + 1, _, _, rfl, rfl, HG3, HP3, HB3, HL4⟩, rfl⟩
                  case measure => simp [intOf]; omega
              | false =>
                · refine rnd_raw37c _ s W B T acc i rs r n _ _ _ _ _ _ _ _ _ _ _ _ _ _ _ _ _ _ _ _ _ _ _ _ _ _ _ _ _ _ _ _ _ _ _ _ _ _ _ _ _ _ _ _ _ _ _ _ _ _ _ _ _ _ _ _ _ _ _ _ _ _ _ _ _ _ _ _ _ _ _ _ _ _ _ _ _ _ _ _ _ _ _ _ _ _ _ _ _ _ _ _ _ _ _ _ _ _ _ _ _ _ _ _ _ _ _ _ _ _ _ _ _ _ _ _ _ _ _ _ _ _ _ _ _ _ _ _ _ _ HB hB2 HT2 hal2 hs hps hrs hS hTi2 hr h2 hh1 hh2 ?_
                  intro iv rv w3 z13 z14 z45 z46 z47 z48 z49 z50 z51 z52 z53 z54 z55 z56 z57 z58 z59 z60 z61 z62 z63 z64 z65 z66 z67 z68 z69 z70 z71 z72 z73 z74 z75 z76 z77 z78 z79 z80 z81 z82 z83 z84 z85 z86 z87 z88 z89 z90 z91 z92 z93 z94 z95 z96 z97 z98 z99 z100 z101 z102 z103 z104 z105 z106 z107 z108 z109 z110 z111 z112 z113 z114 z115 z116 z117 z118 z119 z120 z121 z122 z123 z124 z125 z126 z127 z128 hiv hrv HB3 HL3
                  subst hiv hrv
                  have HP3 := Lib.hid (HP.out.sign hS HTl.out hTi2 (by omega) (fun _ h => by rw [hh2] at h; cases h.2.2))
                  have HG3 : Hid (Good s (i + n)) := HG2
                  have HL4 : Hid (Below B W0 w3) := Lib.hid (HBL.out.trans HL3.out)
                  go_roundw
                  case rel => (repeat apply Exists.intro); exact ⟨⟨i + n, _, _, rfl, rfl, HG3, HP3, HB3, HL4⟩, rfl⟩
                  case measure => simp [intOf]; omega
            | false =>
              · refine rnd_raw37b _ s W B T acc i rs r n _ _ _ _ _ _ _ _ _ _ _ _ _ _ _ _ _ _ _ _ _ _ _ _ _ _ _ _ _ _ _ _ _ _ _ _ _ _ _ _ _ _ _ _ _ _ _ _ _ _ _ _ _ _ _ _ _ _ _ _ _ _ _ _ _ _ _ _ _ _ _ _ _ _ _ _ _ _ _ _ _ _ _ _ _ _ _ _ _ _ _ _ _ _ _ _ _ _ _ _ _ _ _ _ _ _ _ _ _ _ _ _ _ _ _ _ _ _ _ _ _ _ _ _ _ _ _ _ _ _ HB hB2 HT2 hal2 hs hps hrs hS hTi2 hr h2 hh1 ?_
                intro iv rv w3 z13 z14 z45 z46 z47 z48 z49 z50 z51 z52 z53 z54 z55 z56 z57 z58 z59 z60 z61 z62 z63 z64 z65 z66 z67 z68 z69 z70 z71 z72 z73 z74 z75 z76 z77 z78 z79 z80 z81 z82 z83 z84 z85 z86 z87 z88 z89 z90 z91 z92 z93 z94 z95 z96 z97 z98 z99 z100 z101 z102 z103 z104 z105 z106 z107 z108 z109 z110 z111 z112 z113 z114 z115 z116 z117 z118 z119 z120 z121 z122 z123 z124 z125 z126 z127 z128 hiv hrv HB3 HL3
                subst hiv hrv
                have HP3 := Lib.hid (HP.out.sign hS HTl.out hTi2 (by omega) (fun _ h => by rw [hh1] at h; cases h.2.1))
                have HG3 : Hid (Good s (i + n)) := HG2
                have HL4 : Hid (Below B W0 w3) := Lib.hid (HBL.out.trans HL3.out)
                go_roundw
                case rel => (repeat apply Exists.intro); exact ⟨⟨i + n, _, _, rfl, rfl, HG3, HP3, HB3, HL4⟩, rfl⟩
                case measure => simp [intOf]; omega
          · refine rnd_raw37a _ s W B T acc i rs r n _ _ _ _ _ _ _ _ _ _ _ _ _ _ _ _ _ _ _ _ _ _ _ _ _ _ _ _ _ _ _ _ _ _ _ _ _ _ _ _ _ _ _ _ _ _ _ _ _ _ _ _ _ _ _ _ _ _ _ _ _ _ _ _ _ _ _ _ _ _ _ _ _ _ _ _ _ _ _ _ _ _ _ _ _ _ _ _ _ _ _ _ _ _ _ _ _ _ _ _ _ _ _ _ _ _ _ _ _ _ _ _ _ _ _ _ _ _ _ _ _ _ _ _ _ _ _ _ _ _ HB hB2 HT2 hal2 hs hps hrs hS hTi2 hr h2 ?_
            intro iv rv w3 z13 z14 z45 z46 z47 z48 z49 z50 z51 z52 z53 z54 z55 z56 z57 z58 z59 z60 z61 z62 z63 z64 z65 z66 z67 z68 z69 z70 z71 z72 z73 z74 z75 z76 z77 z78 z79 z80 z81 z82 z83 z84 z85 z86 z87 z88 z89 z90 z91 z92 z93 z94 z95 z96 z97 z98 z99 z100 z101 z102 z103 z104 z105 z106 z107 z108 z109 z110 z111 z112 z113 z114 z115 z116 z117 z118 z119 z120 z121 z122 z123 z124 z125 z126 z127 z128 hiv hrv HB3 HL3
            subst hiv hrv
            have HP3 := Lib.hid (HP.out.sign hS HTl.out hTi2 (by omega) (fun _ h => h2 h.1))
            have HG3 : Hid (Good s (i + n)) := HG2
            have HL4 : Hid (Below B W0 w3) := Lib.hid (HBL.out.trans HL3.out)
            go_roundw
            case rel => (repeat apply Exists.intro); exact ⟨⟨i + n, _, _, rfl, rfl, HG3, HP3, HB3, HL4⟩, rfl⟩
            case measure => simp [intOf]; omega
        · refine rnd_bad _ s W B T acc i rs r n _ _ _ _ _ _ _ _ _ _ _ _ _ _ _ _ _ _ _ _ _ _ _ _ _ _ _ _ _ _ _ _ _ _ _ _ _ _ _ _ _ _ _ _ _ _ _ _ _ _ _ _ _ _ _ _ _ _ _ _ _ _ _ _ _ _ _ _ _ _ _ _ _ _ _ _ _ _ _ _ _ _ _ _ _ _ _ _ _ _ _ _ _ _ _ _ _ _ _ _ _ _ _ _ _ _ _ _ _ _ _ _ _ _ _ _ _ _ _ _ _ _ _ _ _ _ _ _ _ _ HB hB2 HT2 hal2 hs hps hrs hS hTi2 hr ?_
          intro iv rv w3 z13 z14 z45 z46 z47 z48 z49 z50 z51 z52 z53 z54 z55 z56 z57 z58 z59 z60 z61 z62 z63 z64 z65 z66 z67 z68 z69 z70 z71 z72 z73 z74 z75 z76 z77 z78 z79 z80 z81 z82 z83 z84 z85 z86 z87 z88 z89 z90 z91 z92 z93 z94 z95 z96 z97 z98 z99 z100 z101 z102 z103 z104 z105 z106 z107 z108 z109 z110 z111 z112 z113 z114 z115 z116 z117 z118 z119 z120 z121 z122 z123 z124 z125 z126 z127 z128 hiv hrv HB3 HL3
          subst hiv hrv
          have HP3 := Lib.hid (HP.out.sign hS HTl.out hTi2 (by omega) (fun h => by omega))
          have HG3 : Hid (Good s (i + n)) := HG2
          have HL4 : Hid (Below B W0 w3) := Lib.hid (HBL.out.trans HL3.out)
          go_roundw
          case rel => (repeat apply Exists.intro); exact ⟨⟨i + n, _, _, rfl, rfl, HG3, HP3, HB3, HL4⟩, rfl⟩
          case measure => simp [intOf]; omega
        · refine rnd_raw _ s W B T acc i rs r n _ _ _ _ _ _ _ _ _ _ _ _ _ _ _ _ _ _ _ _ _ _ _ _ _ _ _ _ _ _ _ _ _ _ _ _ _ _ _ _ _ _ _ _ _ _ _ _ _ _ _ _ _ _ _ _ _ _ _ _ _ _ _ _ _ _ _ _ _ _ _ _ _ _ _ _ _ _ _ _ _ _ _ _ _ _ _ _ _ _ _ _ _ _ _ _ _ _ _ _ _ _ _ _ _ _ _ _ _ _ _ _ _ _ _ _ _ _ _ _ _ _ _ _ _ _ _ _ _ _ HB hB2 HT2 hal2 hs hps hrs hS hTi2 hr h65 ?_
          intro iv rv w3 z13 z14 z45 z46 z47 z48 z49 z50 z51 z52 z53 z54 z55 z56 z57 z58 z59 z60 z61 z62 z63 z64 z65 z66 z67 z68 z69 z70 z71 z72 z73 z74 z75 z76 z77 z78 z79 z80 z81 z82 z83 z84 z85 z86 z87 z88 z89 z90 z91 z92 z93 z94 z95 z96 z97 z98 z99 z100 z101 z102 z103 z104 z105 z106 z107 z108 z109 z110 z111 z112 z113 z114 z115 z116 z117 z118 z119 z120 z121 z122 z123 z124 z125 z126 z127 z128 hiv hrv HB3 HL3
          subst hiv hrv
          have HP3 := Lib.hid (HP.out.sign hS HTl.out hTi2 (by omega) (fun h => absurd h hr.2.2.2.2))
          have HG3 : Hid (Good s (i + n)) := HG2
          have HL4 : Hid (Below B W0 w3) := Lib.hid (HBL.out.trans HL3.out)
          go_roundw
          case rel => (repeat apply Exists.intro); exact ⟨⟨i + n, _, _, rfl, rfl, HG3, HP3, HB3, HL4⟩, rfl⟩
          case measure => simp [intOf]; omega
    · obtain rfl : i = s.size := by omega
      go_wp2_with fail
      exact HK.out acc rs _ _ _ _ _ _ _ _ _ _ _ _ _ _ _ _ _ _ _ _ _ _ _ _ _ _ _ _ _ _ _ _ _ _ _ _ _ _ _ _ _ _ _ _ _ _ _ _ _ _ _ _ _ _ _ _ _ _ _ _ _ _ _ _ _ _ _ _ _ _ _ _ _ _ _ _ _ _ _ _ _ _ _ _ _ _ _ _ _ HP.out (by have := HP.out.len; omega) HB HBL
end Go.Proofs.YtmfbnmjmgpafmaaDoor
