/- internalQuote's second loop: a round that copies a run of signs, or escapes a sign by six or by twelve bytes. -/
import Derived.Test.YtmgjioffppphbaaQuoH
import Derived.Test.YtmgjioffppphbaaQuoS
namespace Go.Proofs.Ytmgjioffppphbaa
open Go.RowKit
set_option linter.unusedVariables false
set_option linter.unusedSimpArgs false
set_option maxRecDepth 1000000 in
set_option maxHeartbeats 16000000 in
theorem round_run (Q : Exit → Act → World → Prop) (s : ByteArray) (a : Bool) (W : World) (B : Nat) (acc : List Nat) (p r n : Nat) (y3 y4 y5 y6 y7 y8 y9 y10 y13 y14 y15 y16 y17 y18 y19 y20 y21 y22 y23 y24 y25 y26 y27 y28 y29 y30 y31 y32 y33 y34 y35 y36 y37 y38 y39 y40 y41 y42 y43 y44 y45 y46 y47 y48 y49 y50 y51 y52 y53 y54 y55 y56 y57 y58 y59 y60 y61 y62 y63 y64 y65 y66 y67 y68 y69 y70 y71 y72 y73 y74 y75 y76 y77 y78 y79 y80 y81 y82 y83 y84 y85 y86 y87 y88 y89 y90 y91 y92 y93 y94 y95 y96 y97 y98 y99 y100 y101 y102 y103 y104 y105 y106 y107 y108 y109 y110 y111 y112 y113 y114 y115 y116 y117 y118 y119 y120 y121 y122 y123 y124 y125 y126 y127 y128 y129 y130 y131 y132 y133 y134 y135 y136 y137 y138 y139 y140 y141 y142 y143 y144 y145 y146 y147 y148 y149 y150 y151 y152 y153 y154 y155 y156 y157 y158 y159 y160 y161 y162 y163 y164 y165 y166 y167 y168 y169 y170 y171 y172 y173 y174 y175 y176 y177 y178 y179 y180 y181 y182 y183 y184 y185 y186 y187 y188 y189 y190 y191 y192 y193 y194 y195 y196 y197 y198 y199 y200 y201 y202 y203 y204 y205 y206 y207 y208 y209 y210 y211 y212 y213 y214 y215 y216 y217 y218 y219 y220 y221 y222 y223 y224 y225 y226 y227 y228 y229 y230 : Value) (HO : Hid (Bytes B acc y10 W)) (hB : B ≤ W.heap.size) (hal : acc.length ≤ 3600) (hs : s.size ≤ 300) (hps : p < s.size) (hS : Sign s p r n) (hc : canP r a = true) (HG2 : Hid (Good s (p + n)))
    (hK : ∀ (e : Nat), p < e → e ≤ s.size → Good s e → Run s a p e → ∀ (iv v3 : Value) (w3 : World) (x13 x14 x15 x16 x17 x66 x67 x68 x69 x70 x71 x72 x73 x74 x75 x76 x77 x78 x79 x80 x81 x82 x83 x84 x85 x86 x87 x88 x89 x90 x91 x92 x93 x94 x95 x96 x97 x98 x99 x100 x101 x102 x103 x104 x105 x106 x107 x108 x109 x110 x111 x112 x113 x114 x115 x116 x117 x118 x119 x120 x121 x122 x123 x124 x125 x126 x127 x128 x129 x130 x131 x132 x133 x134 x135 x136 x137 x138 x139 x140 x141 x142 x143 x144 x145 x146 x147 x148 x149 x150 x151 x152 x153 x154 x155 x156 x157 x158 x159 x160 x161 x162 x163 x164 x165 x166 x167 x168 x169 x170 x171 x172 x173 x174 x175 x176 x177 x178 x179 x180 x181 x182 x183 x184 x185 x186 x187 x188 x189 x190 x191 x192 x193 x194 x195 x196 x197 x198 x199 x200 x201 x202 x203 x204 x205 x206 x207 x208 x209 x210 x211 x212 x213 x214 x215 x216 x217 x218 x219 x220 x221 x222 x223 x224 x225 x226 : Value), iv = .int .i64 ((e : Nat) : Int) → Hid (Bytes B (acc ++ part s p (e - p)) v3 w3) → Hid (∀ w0, Below B w0 W → Below B w0 w3) →
      Q .normal ⟨#[.string s, .bool a, .int .u8 34, y3, y4, y5, y6, y7, y8, y9, v3, iv, .int .i64 (s.size : Int), x13, x14, x15, x16, x17, y18, y19, y20, y21, y22, y23, y24, y25, y26, y27, y28, y29, y30, y31, y32, y33, y34, y35, y36, y37, y38, y39, y40, y41, y42, y43, y44, y45, y46, y47, y48, y49, y50, y51, y52, y53, y54, y55, y56, y57, y58, y59, y60, y61, y62, y63, y64, y65, x66, x67, x68, x69, x70, x71, x72, x73, x74, x75, x76, x77, x78, x79, x80, x81, x82, x83, x84, x85, x86, x87, x88, x89, x90, x91, x92, x93, x94, x95, x96, x97, x98, x99, x100, x101, x102, x103, x104, x105, x106, x107, x108, x109, x110, x111, x112, x113, x114, x115, x116, x117, x118, x119, x120, x121, x122, x123, x124, x125, x126, x127, x128, x129, x130, x131, x132, x133, x134, x135, x136, x137, x138, x139, x140, x141, x142, x143, x144, x145, x146, x147, x148, x149, x150, x151, x152, x153, x154, x155, x156, x157, x158, x159, x160, x161, x162, x163, x164, x165, x166, x167, x168, x169, x170, x171, x172, x173, x174, x175, x176, x177, x178, x179, x180, x181, x182, x183, x184, x185, x186, x187, x188, x189, x190, x191, x192, x193, x194, x195, x196, x197, x198, x199, x200, x201, x202, x203, x204, x205, x206, x207, x208, x209, x210, x211, x212, x213, x214, x215, x216, x217, x218, x219, x220, x221, x222, x223, x224, x225, x226, y227, y228, y229, y230], []⟩ w3) :
    round2.wp Try.prog Q ⟨#[.string s, .bool a, .int .u8 34, y3, y4, y5, y6, y7, y8, y9, y10, .int .i64 (p : Int), .int .i64 (s.size : Int), y13, y14, y15, y16, y17, y18, y19, y20, y21, y22, y23, y24, y25, y26, y27, y28, y29, y30, y31, y32, y33, y34, y35, y36, y37, y38, y39, y40, y41, y42, y43, y44, y45, y46, y47, y48, y49, y50, y51, y52, y53, y54, y55, y56, y57, y58, y59, y60, y61, y62, y63, y64, y65, y66, y67, y68, y69, y70, y71, y72, y73, y74, y75, y76, y77, y78, y79, y80, y81, y82, y83, y84, y85, y86, y87, y88, y89, y90, y91, y92, y93, y94, y95, y96, y97, y98, y99, y100, y101, y102, y103, y104, y105, y106, y107, y108, y109, y110, y111, y112, y113, y114, y115, y116, y117, y118, y119, y120, y121, y122, y123, y124, y125, y126, y127, y128, y129, y130, y131, y132, y133, y134, y135, y136, y137, y138, y139, y140, y141, y142, y143, y144, y145, y146, y147, y148, y149, y150, y151, y152, y153, y154, y155, y156, y157, y158, y159, y160, y161, y162, y163, y164, y165, y166, y167, y168, y169, y170, y171, y172, y173, y174, y175, y176, y177, y178, y179, y180, y181, y182, y183, y184, y185, y186, y187, y188, y189, y190, y191, y192, y193, y194, y195, y196, y197, y198, y199, y200, y201, y202, y203, y204, y205, y206, y207, y208, y209, y210, y211, y212, y213, y214, y215, y216, y217, y218, y219, y220, y221, y222, y223, y224, y225, y226, y227, y228, y229, y230], []⟩ W := by
  obtain ⟨i0, hi0, hz0, hz1, hz2⟩ := info_parts infoU8
  have HK := Lib.hid hK
  have C13 := Lib.hid (wtf_at s p r n hS W)
  have C11 := Lib.hid (canP_any r a W hS.val)
  have hin := hS.inn
  have hwd := hS.wide
  clear hK
  conv => arg 2; whnf
  rw [hc] at C11
  have HR := Lib.hid (run_start hps hS hc)
  clear hc hS
  go_wp2_with (first | (go_at_call 13; refine C13.out.mono ?_; rintro e w' ⟨rfl, rfl⟩) | (go_at_call 11; refine C11.out.mono ?_; rintro e w' ⟨rfl, rfl⟩))
  go_loop [11] (fun iv => ∃ e : Nat, iv = .int .i64 e ∧ p + 1 ≤ e ∧ e ≤ s.size ∧ Hid (Good s e) ∧ Hid (Run s a p e)) (fun iv => s.size - (intOf iv).toNat)
  case atStart => exact ⟨p + n, by go_num, by omega, hin, HG2, HR⟩
  case round =>
    obtain ⟨e, rfl, hpe, hes, HGe, HR2⟩ := hrel
    have HSZ : Hid ((s.extract p e).size = e - p) := Lib.hid (by simp; omega)
    by_cases he : e < s.size
    · obtain ⟨hS2, hG3⟩ := good_sign HGe.out he
      generalize hr2 : (Utf8.decode s e).1 = r2 at hS2 hG3
      generalize hd2 : (Utf8.decode s e).2 = n2 at hS2 hG3
      clear hr2 hd2
      have D13 := Lib.hid (wtf_at s e r2 n2 hS2 W)
      have D11 := Lib.hid (canP_any r2 a W hS2.val)
      have hin2 := hS2.inn
      have hwd2 := hS2.wide
      have HG3 := Lib.hid hG3
      clear hG3
      cases hc2 : canP r2 a with
      | true =>
        rw [hc2] at D11
        have HR3 := Lib.hid (HR2.out.more he hS2 hc2)
        clear hc2 hS2
        go_wp2_with (first | (go_at_call 13; refine D13.out.mono ?_; rintro e w' ⟨rfl, rfl⟩) | (go_at_call 11; refine D11.out.mono ?_; rintro e w' ⟨rfl, rfl⟩))
        go_round
        case rel => exact ⟨e + n2, by go_num, by omega, hin2, HG3, HR3⟩
        case measure => simp [intOf]; omega
      | false =>
        rw [hc2] at D11
        clear hc2 hS2
        go_wp2_with (first | (go_at_call 13; refine D13.out.mono ?_; rintro e w' ⟨rfl, rfl⟩) | (go_at_call 11; refine D11.out.mono ?_; rintro e w' ⟨rfl, rfl⟩) | (refine Lib.wpList_append_own_string _ rfl _ _ 31 9 rfl B 5 i0 Try.underlying31 Try.underlying9 hi0 hz0 hz1 hz2 y10 (acc.length + 1) (numCells (34 :: acc)) rfl HO.out (s.extract p e) rfl (by have := HSZ.out; unfold maxLen; omega) (by have := HSZ.out; omega) hB ?_; intro v3 w3 hown3 hg3 _; have HB3 : Hid (∀ w0, Below B w0 W → Below B w0 w3) := Lib.hid (fun w0 hb => hb.grown hg3 hB (fun k hk => (HO.out.lt k hk).1)); have HO3 := Lib.hid (Bytes.text hown3 part_text); clear hown3 hg3))
        exact HK.out e (by omega) hes HGe.out HR2.out _ _ _ _ _ _ _ _ _ _ _ _ _ _ _ _ _ _ _ _ _ _ _ _ _ _ _ _ _ _ _ _ _ _ _ _ _ _ _ _ _ _ _ _ _ _ _ _ _ _ _ _ _ _ _ _ _ _ _ _ _ _ _ _ _ _ _ _ _ _ _ _ _ _ _ _ _ _ _ _ _ _ _ _ _ _ _ _ _ _ _ _ _ _ _ _ _ _ _ _ _ _ _ _ _ _ _ _ _ _ _ _ _ _ _ _ _ _ _ _ _ _ _ _ _ _ _ _ _ _ _ _ _ _ _ _ _ _ _ _ _ _ _ _ _ _ _ _ _ _ _ _ _ _ _ _ _ _ _ _ _ _ _ _ _ _ _ _ _ rfl HO3 HB3
    · go_wp2_with (refine Lib.wpList_append_own_string _ rfl _ _ 31 9 rfl B 5 i0 Try.underlying31 Try.underlying9 hi0 hz0 hz1 hz2 y10 (acc.length + 1) (numCells (34 :: acc)) rfl HO.out (s.extract p e) rfl (by have := HSZ.out; unfold maxLen; omega) (by have := HSZ.out; omega) hB ?_; intro v3 w3 hown3 hg3 _; have HB3 : Hid (∀ w0, Below B w0 W → Below B w0 w3) := Lib.hid (fun w0 hb => hb.grown hg3 hB (fun k hk => (HO.out.lt k hk).1)); have HO3 := Lib.hid (Bytes.text hown3 part_text); clear hown3 hg3)
      exact HK.out e (by omega) hes HGe.out HR2.out _ _ _ _ _ _ _ _ _ _ _ _ _ _ _ _ _ _ _ _ _ _ _ _ _ _ _ _ _ _ _ _ _ _ _ _ _ _ _ _ _ _ _ _ _ _ _ _ _ _ _ _ _ _ _ _ _ _ _ _ _ _ _ _ _ _ _ _ _ _ _ _ _ _ _ _ _ _ _ _ _ _ _ _ _ _ _ _ _ _ _ _ _ _ _ _ _ _ _ _ _ _ _ _ _ _ _ _ _ _ _ _ _ _ _ _ _ _ _ _ _ _ _ _ _ _ _ _ _ _ _ _ _ _ _ _ _ _ _ _ _ _ _ _ _ _ _ _ _ _ _ _ _ _ _ _ _ _ _ _ _ _ _ _ _ _ _ _ _ rfl HO3 HB3
set_option maxRecDepth 1000000 in
set_option maxHeartbeats 16000000 in
theorem round_six (Q : Exit → Act → World → Prop) (s : ByteArray) (a : Bool) (W : World) (B : Nat) (acc : List Nat) (p r n : Nat) (y3 y4 y5 y6 y7 y8 y9 y10 y13 y14 y15 y16 y17 y18 y19 y20 y21 y22 y23 y24 y25 y26 y27 y28 y29 y30 y31 y32 y33 y34 y35 y36 y37 y38 y39 y40 y41 y42 y43 y44 y45 y46 y47 y48 y49 y50 y51 y52 y53 y54 y55 y56 y57 y58 y59 y60 y61 y62 y63 y64 y65 y66 y67 y68 y69 y70 y71 y72 y73 y74 y75 y76 y77 y78 y79 y80 y81 y82 y83 y84 y85 y86 y87 y88 y89 y90 y91 y92 y93 y94 y95 y96 y97 y98 y99 y100 y101 y102 y103 y104 y105 y106 y107 y108 y109 y110 y111 y112 y113 y114 y115 y116 y117 y118 y119 y120 y121 y122 y123 y124 y125 y126 y127 y128 y129 y130 y131 y132 y133 y134 y135 y136 y137 y138 y139 y140 y141 y142 y143 y144 y145 y146 y147 y148 y149 y150 y151 y152 y153 y154 y155 y156 y157 y158 y159 y160 y161 y162 y163 y164 y165 y166 y167 y168 y169 y170 y171 y172 y173 y174 y175 y176 y177 y178 y179 y180 y181 y182 y183 y184 y185 y186 y187 y188 y189 y190 y191 y192 y193 y194 y195 y196 y197 y198 y199 y200 y201 y202 y203 y204 y205 y206 y207 y208 y209 y210 y211 y212 y213 y214 y215 y216 y217 y218 y219 y220 y221 y222 y223 y224 y225 y226 y227 y228 y229 y230 : Value) (HO : Hid (Bytes B acc y10 W)) (hB : B ≤ W.heap.size) (hal : acc.length ≤ 3600) (hs : s.size ≤ 300) (hps : p < s.size) (hS : Sign s p r n) (hc : canP r a = false) (hrest : r ≠ 8 ∧ r ≠ 12 ∧ r ≠ 10 ∧ r ≠ 13 ∧ r ≠ 9 ∧ r ≠ 92 ∧ r ≠ 34 ∧ r ≠ 39) (hbig : r ≤ 65535)
    (hK : ∀ (iv v3 : Value) (w3 : World) (x13 x14 x15 x16 x17 x66 x67 x68 x69 x70 x71 x72 x73 x74 x75 x76 x77 x78 x79 x80 x81 x82 x83 x84 x85 x86 x87 x88 x89 x90 x91 x92 x93 x94 x95 x96 x97 x98 x99 x100 x101 x102 x103 x104 x105 x106 x107 x108 x109 x110 x111 x112 x113 x114 x115 x116 x117 x118 x119 x120 x121 x122 x123 x124 x125 x126 x127 x128 x129 x130 x131 x132 x133 x134 x135 x136 x137 x138 x139 x140 x141 x142 x143 x144 x145 x146 x147 x148 x149 x150 x151 x152 x153 x154 x155 x156 x157 x158 x159 x160 x161 x162 x163 x164 x165 x166 x167 x168 x169 x170 x171 x172 x173 x174 x175 x176 x177 x178 x179 x180 x181 x182 x183 x184 x185 x186 x187 x188 x189 x190 x191 x192 x193 x194 x195 x196 x197 x198 x199 x200 x201 x202 x203 x204 x205 x206 x207 x208 x209 x210 x211 x212 x213 x214 x215 x216 x217 x218 x219 x220 x221 x222 x223 x224 x225 x226 : Value), iv = .int .i64 ((p + n : Nat) : Int) → Hid (Bytes B (acc ++ esc r) v3 w3) → Hid (∀ w0, Below B w0 W → Below B w0 w3) →
      Q .normal ⟨#[.string s, .bool a, .int .u8 34, y3, y4, y5, y6, y7, y8, y9, v3, iv, .int .i64 (s.size : Int), x13, x14, x15, x16, x17, y18, y19, y20, y21, y22, y23, y24, y25, y26, y27, y28, y29, y30, y31, y32, y33, y34, y35, y36, y37, y38, y39, y40, y41, y42, y43, y44, y45, y46, y47, y48, y49, y50, y51, y52, y53, y54, y55, y56, y57, y58, y59, y60, y61, y62, y63, y64, y65, x66, x67, x68, x69, x70, x71, x72, x73, x74, x75, x76, x77, x78, x79, x80, x81, x82, x83, x84, x85, x86, x87, x88, x89, x90, x91, x92, x93, x94, x95, x96, x97, x98, x99, x100, x101, x102, x103, x104, x105, x106, x107, x108, x109, x110, x111, x112, x113, x114, x115, x116, x117, x118, x119, x120, x121, x122, x123, x124, x125, x126, x127, x128, x129, x130, x131, x132, x133, x134, x135, x136, x137, x138, x139, x140, x141, x142, x143, x144, x145, x146, x147, x148, x149, x150, x151, x152, x153, x154, x155, x156, x157, x158, x159, x160, x161, x162, x163, x164, x165, x166, x167, x168, x169, x170, x171, x172, x173, x174, x175, x176, x177, x178, x179, x180, x181, x182, x183, x184, x185, x186, x187, x188, x189, x190, x191, x192, x193, x194, x195, x196, x197, x198, x199, x200, x201, x202, x203, x204, x205, x206, x207, x208, x209, x210, x211, x212, x213, x214, x215, x216, x217, x218, x219, x220, x221, x222, x223, x224, x225, x226, y227, y228, y229, y230], []⟩ w3) :
    round2.wp Try.prog Q ⟨#[.string s, .bool a, .int .u8 34, y3, y4, y5, y6, y7, y8, y9, y10, .int .i64 (p : Int), .int .i64 (s.size : Int), y13, y14, y15, y16, y17, y18, y19, y20, y21, y22, y23, y24, y25, y26, y27, y28, y29, y30, y31, y32, y33, y34, y35, y36, y37, y38, y39, y40, y41, y42, y43, y44, y45, y46, y47, y48, y49, y50, y51, y52, y53, y54, y55, y56, y57, y58, y59, y60, y61, y62, y63, y64, y65, y66, y67, y68, y69, y70, y71, y72, y73, y74, y75, y76, y77, y78, y79, y80, y81, y82, y83, y84, y85, y86, y87, y88, y89, y90, y91, y92, y93, y94, y95, y96, y97, y98, y99, y100, y101, y102, y103, y104, y105, y106, y107, y108, y109, y110, y111, y112, y113, y114, y115, y116, y117, y118, y119, y120, y121, y122, y123, y124, y125, y126, y127, y128, y129, y130, y131, y132, y133, y134, y135, y136, y137, y138, y139, y140, y141, y142, y143, y144, y145, y146, y147, y148, y149, y150, y151, y152, y153, y154, y155, y156, y157, y158, y159, y160, y161, y162, y163, y164, y165, y166, y167, y168, y169, y170, y171, y172, y173, y174, y175, y176, y177, y178, y179, y180, y181, y182, y183, y184, y185, y186, y187, y188, y189, y190, y191, y192, y193, y194, y195, y196, y197, y198, y199, y200, y201, y202, y203, y204, y205, y206, y207, y208, y209, y210, y211, y212, y213, y214, y215, y216, y217, y218, y219, y220, y221, y222, y223, y224, y225, y226, y227, y228, y229, y230], []⟩ W := by
  obtain ⟨i0, hi0, hz0, hz1, hz2⟩ := info_parts infoU8
  have HK := Lib.hid hK
  have C13 := Lib.hid (wtf_at s p r n hS W)
  have C11 := Lib.hid (canP_any r a W hS.val)
  have hin := hS.inn
  have hwd := hS.wide
  clear hK
  conv => arg 2; whnf
  rw [hc] at C11
  have f1 : ((r : Int) == 8) = false := by simp; omega
  have f2 : ((r : Int) == 12) = false := by simp; omega
  have f3 : ((r : Int) == 10) = false := by simp; omega
  have f4 : ((r : Int) == 13) = false := by simp; omega
  have f5 : ((r : Int) == 9) = false := by simp; omega
  have f6 : ((r : Int) == 92) = false := by simp; omega
  have f7 : ((r : Int) == 34) = false := by simp; omega
  have f8 : ((r : Int) == 39) = false := by simp; omega
  have f9 : decide ((r : Int) ≤ 65535) = true := by simp; omega
  clear hc hS
  go_wp2_with (first | (go_at_call 13; refine C13.out.mono ?_; rintro e w' ⟨rfl, rfl⟩) | (go_at_call 11; refine C11.out.mono ?_; rintro e w' ⟨rfl, rfl⟩))
  clear f1 f2 f3 f4 f5 f6 f7 f8 f9
  refine region41 _ W B acc r hbig _ _ _ _ _ _ _ _ _ _ _ _ _ _ _ _ _ _ _ _ _ _ _ _ _ _ _ _ _ _ _ _ _ _ _ _ _ _ _ _ _ _ _ _ _ _ _ _ _ _ _ _ _ _ _ _ _ _ _ _ _ _ _ _ _ _ _ _ _ _ _ _ _ _ _ _ _ _ _ _ _ _ _ _ _ _ _ _ _ _ _ _ _ _ _ _ _ _ _ _ _ _ _ _ _ _ _ _ _ _ _ _ _ _ _ _ _ _ _ _ _ _ _ _ _ _ _ _ _ _ _ _ _ _ _ _ _ _ _ _ _ _ _ _ _ _ _ _ _ _ _ _ _ _ _ _ _ _ _ _ _ _ _ _ _ _ _ _ _ _ _ _ _ _ _ _ _ _ _ _ _ _ _ _ _ _ _ _ _ _ _ _ _ _ _ _ _ _ _ _ _ _ _ _ _ _ _ _ _ _ _ _ _ _ _ _ _ _ _ _ _ _ _ _ _ _ _ _ _ _ HO hB (by omega) ?_
  intro v3 w3 z112 z113 z114 z115 z116 z117 z118 z119 z120 z121 z122 z123 z124 z125 z126 z127 z128 HOx HB3
  have HO3 : Hid (Bytes B (acc ++ esc r) v3 w3) := Lib.hid (by rw [esc_bmp (by omega) hbig]; exact HOx.out)
  clear HOx
  go_wp2_with fail
  exact HK.out _ _ _ _ _ _ _ _ _ _ _ _ _ _ _ _ _ _ _ _ _ _ _ _ _ _ _ _ _ _ _ _ _ _ _ _ _ _ _ _ _ _ _ _ _ _ _ _ _ _ _ _ _ _ _ _ _ _ _ _ _ _ _ _ _ _ _ _ _ _ _ _ _ _ _ _ _ _ _ _ _ _ _ _ _ _ _ _ _ _ _ _ _ _ _ _ _ _ _ _ _ _ _ _ _ _ _ _ _ _ _ _ _ _ _ _ _ _ _ _ _ _ _ _ _ _ _ _ _ _ _ _ _ _ _ _ _ _ _ _ _ _ _ _ _ _ _ _ _ _ _ _ _ _ _ _ _ _ _ _ _ _ _ _ _ _ _ _ _ (by go_num) HO3 HB3
set_option maxRecDepth 1000000 in
set_option maxHeartbeats 16000000 in
theorem round_twelve (Q : Exit → Act → World → Prop) (s : ByteArray) (a : Bool) (W : World) (B : Nat) (acc : List Nat) (p r n : Nat) (y3 y4 y5 y6 y7 y8 y9 y10 y13 y14 y15 y16 y17 y18 y19 y20 y21 y22 y23 y24 y25 y26 y27 y28 y29 y30 y31 y32 y33 y34 y35 y36 y37 y38 y39 y40 y41 y42 y43 y44 y45 y46 y47 y48 y49 y50 y51 y52 y53 y54 y55 y56 y57 y58 y59 y60 y61 y62 y63 y64 y65 y66 y67 y68 y69 y70 y71 y72 y73 y74 y75 y76 y77 y78 y79 y80 y81 y82 y83 y84 y85 y86 y87 y88 y89 y90 y91 y92 y93 y94 y95 y96 y97 y98 y99 y100 y101 y102 y103 y104 y105 y106 y107 y108 y109 y110 y111 y112 y113 y114 y115 y116 y117 y118 y119 y120 y121 y122 y123 y124 y125 y126 y127 y128 y129 y130 y131 y132 y133 y134 y135 y136 y137 y138 y139 y140 y141 y142 y143 y144 y145 y146 y147 y148 y149 y150 y151 y152 y153 y154 y155 y156 y157 y158 y159 y160 y161 y162 y163 y164 y165 y166 y167 y168 y169 y170 y171 y172 y173 y174 y175 y176 y177 y178 y179 y180 y181 y182 y183 y184 y185 y186 y187 y188 y189 y190 y191 y192 y193 y194 y195 y196 y197 y198 y199 y200 y201 y202 y203 y204 y205 y206 y207 y208 y209 y210 y211 y212 y213 y214 y215 y216 y217 y218 y219 y220 y221 y222 y223 y224 y225 y226 y227 y228 y229 y230 : Value) (HO : Hid (Bytes B acc y10 W)) (hB : B ≤ W.heap.size) (hal : acc.length ≤ 3600) (hs : s.size ≤ 300) (hps : p < s.size) (hS : Sign s p r n) (hc : canP r a = false) (hrest : r ≠ 8 ∧ r ≠ 12 ∧ r ≠ 10 ∧ r ≠ 13 ∧ r ≠ 9 ∧ r ≠ 92 ∧ r ≠ 34 ∧ r ≠ 39) (hbig : ¬ r ≤ 65535)
    (hK : ∀ (iv v3 : Value) (w3 : World) (x13 x14 x15 x16 x17 x66 x67 x68 x69 x70 x71 x72 x73 x74 x75 x76 x77 x78 x79 x80 x81 x82 x83 x84 x85 x86 x87 x88 x89 x90 x91 x92 x93 x94 x95 x96 x97 x98 x99 x100 x101 x102 x103 x104 x105 x106 x107 x108 x109 x110 x111 x112 x113 x114 x115 x116 x117 x118 x119 x120 x121 x122 x123 x124 x125 x126 x127 x128 x129 x130 x131 x132 x133 x134 x135 x136 x137 x138 x139 x140 x141 x142 x143 x144 x145 x146 x147 x148 x149 x150 x151 x152 x153 x154 x155 x156 x157 x158 x159 x160 x161 x162 x163 x164 x165 x166 x167 x168 x169 x170 x171 x172 x173 x174 x175 x176 x177 x178 x179 x180 x181 x182 x183 x184 x185 x186 x187 x188 x189 x190 x191 x192 x193 x194 x195 x196 x197 x198 x199 x200 x201 x202 x203 x204 x205 x206 x207 x208 x209 x210 x211 x212 x213 x214 x215 x216 x217 x218 x219 x220 x221 x222 x223 x224 x225 x226 : Value), iv = .int .i64 ((p + n : Nat) : Int) → Hid (Bytes B (acc ++ esc r) v3 w3) → Hid (∀ w0, Below B w0 W → Below B w0 w3) →
      Q .normal ⟨#[.string s, .bool a, .int .u8 34, y3, y4, y5, y6, y7, y8, y9, v3, iv, .int .i64 (s.size : Int), x13, x14, x15, x16, x17, y18, y19, y20, y21, y22, y23, y24, y25, y26, y27, y28, y29, y30, y31, y32, y33, y34, y35, y36, y37, y38, y39, y40, y41, y42, y43, y44, y45, y46, y47, y48, y49, y50, y51, y52, y53, y54, y55, y56, y57, y58, y59, y60, y61, y62, y63, y64, y65, x66, x67, x68, x69, x70, x71, x72, x73, x74, x75, x76, x77, x78, x79, x80, x81, x82, x83, x84, x85, x86, x87, x88, x89, x90, x91, x92, x93, x94, x95, x96, x97, x98, x99, x100, x101, x102, x103, x104, x105, x106, x107, x108, x109, x110, x111, x112, x113, x114, x115, x116, x117, x118, x119, x120, x121, x122, x123, x124, x125, x126, x127, x128, x129, x130, x131, x132, x133, x134, x135, x136, x137, x138, x139, x140, x141, x142, x143, x144, x145, x146, x147, x148, x149, x150, x151, x152, x153, x154, x155, x156, x157, x158, x159, x160, x161, x162, x163, x164, x165, x166, x167, x168, x169, x170, x171, x172, x173, x174, x175, x176, x177, x178, x179, x180, x181, x182, x183, x184, x185, x186, x187, x188, x189, x190, x191, x192, x193, x194, x195, x196, x197, x198, x199, x200, x201, x202, x203, x204, x205, x206, x207, x208, x209, x210, x211, x212, x213, x214, x215, x216, x217, x218, x219, x220, x221, x222, x223, x224, x225, x226, y227, y228, y229, y230], []⟩ w3) :
    round2.wp Try.prog Q ⟨#[.string s, .bool a, .int .u8 34, y3, y4, y5, y6, y7, y8, y9, y10, .int .i64 (p : Int), .int .i64 (s.size : Int), y13, y14, y15, y16, y17, y18, y19, y20, y21, y22, y23, y24, y25, y26, y27, y28, y29, y30, y31, y32, y33, y34, y35, y36, y37, y38, y39, y40, y41, y42, y43, y44, y45, y46, y47, y48, y49, y50, y51, y52, y53, y54, y55, y56, y57, y58, y59, y60, y61, y62, y63, y64, y65, y66, y67, y68, y69, y70, y71, y72, y73, y74, y75, y76, y77, y78, y79, y80, y81, y82, y83, y84, y85, y86, y87, y88, y89, y90, y91, y92, y93, y94, y95, y96, y97, y98, y99, y100, y101, y102, y103, y104, y105, y106, y107, y108, y109, y110, y111, y112, y113, y114, y115, y116, y117, y118, y119, y120, y121, y122, y123, y124, y125, y126, y127, y128, y129, y130, y131, y132, y133, y134, y135, y136, y137, y138, y139, y140, y141, y142, y143, y144, y145, y146, y147, y148, y149, y150, y151, y152, y153, y154, y155, y156, y157, y158, y159, y160, y161, y162, y163, y164, y165, y166, y167, y168, y169, y170, y171, y172, y173, y174, y175, y176, y177, y178, y179, y180, y181, y182, y183, y184, y185, y186, y187, y188, y189, y190, y191, y192, y193, y194, y195, y196, y197, y198, y199, y200, y201, y202, y203, y204, y205, y206, y207, y208, y209, y210, y211, y212, y213, y214, y215, y216, y217, y218, y219, y220, y221, y222, y223, y224, y225, y226, y227, y228, y229, y230], []⟩ W := by
  obtain ⟨i0, hi0, hz0, hz1, hz2⟩ := info_parts infoU8
  have HK := Lib.hid hK
  have C13 := Lib.hid (wtf_at s p r n hS W)
  have C11 := Lib.hid (canP_any r a W hS.val)
  have hin := hS.inn
  have hwd := hS.wide
  clear hK
  conv => arg 2; whnf
  rw [hc] at C11
  have f1 : ((r : Int) == 8) = false := by simp; omega
  have f2 : ((r : Int) == 12) = false := by simp; omega
  have f3 : ((r : Int) == 10) = false := by simp; omega
  have f4 : ((r : Int) == 13) = false := by simp; omega
  have f5 : ((r : Int) == 9) = false := by simp; omega
  have f6 : ((r : Int) == 92) = false := by simp; omega
  have f7 : ((r : Int) == 34) = false := by simp; omega
  have f8 : ((r : Int) == 39) = false := by simp; omega
  have f9 : decide ((r : Int) ≤ 65535) = false := by simp; omega
  have hval := hS.val
  obtain ⟨m, hm⟩ : ∃ m, m = r - 65536 := ⟨_, rfl⟩
  obtain ⟨q, hq⟩ : ∃ q, q = m / 1024 := ⟨_, rfl⟩
  obtain ⟨t, ht⟩ : ∃ t, t = m % 1024 := ⟨_, rfl⟩
  obtain ⟨h, hh⟩ : ∃ h, h = 55296 + q := ⟨_, rfl⟩
  obtain ⟨l, hl⟩ : ∃ l, l = 56320 + t := ⟨_, rfl⟩
  have hm1 : m < 1048576 := by omega
  have HE : Hid (esc r = u4 h ++ u4 l) := Lib.hid (by rw [esc_far (by omega), hh, hl, hq, ht, hm])
  have em : (r : Int) - 65536 = (m : Int) := by omega
  have e10 : bits .and .i32 ((m : Int) / 1024) 1023 = (q : Int) := by
    rw [show (m : Int) / 1024 = ((m / 1024 : Nat) : Int) by omega, units_and _ (by omega), Nat.mod_eq_of_lt (by omega), ← hq]
  have e11 : bits .and .i32 (m : Int) 1023 = (t : Int) := by rw [units_and _ (by omega), ← ht]
  have eh : (55296 : Int) + (q : Int) = (h : Int) := by omega
  have el : (56320 : Int) + (t : Int) = (l : Int) := by omega
  have hh1 : h < 56320 := by omega
  have hl1 : l < 57344 := by omega
  have hq1 : q < 1024 := by omega
  have ht1 : t < 1024 := by omega
  clear hm hq ht hh hl hrest hval hbig hc hS
  go_wp2_with (first | (go_at_call 13; refine C13.out.mono ?_; rintro e w' ⟨rfl, rfl⟩) | (go_at_call 11; refine C11.out.mono ?_; rintro e w' ⟨rfl, rfl⟩))
  clear f1 f2 f3 f4 f5 f6 f7 f8 f9 em e10 e11 eh el
  refine region45 _ W B acc h l (by omega) (by omega) _ _ _ _ _ _ _ _ _ _ _ _ _ _ _ _ _ _ _ _ _ _ _ _ _ _ _ _ _ _ _ _ _ _ _ _ _ _ _ _ _ _ _ _ _ _ _ _ _ _ _ _ _ _ _ _ _ _ _ _ _ _ _ _ _ _ _ _ _ _ _ _ _ _ _ _ _ _ _ _ _ _ _ _ _ _ _ _ _ _ _ _ _ _ _ _ _ _ _ _ _ _ _ _ _ _ _ _ _ _ _ _ _ _ _ _ _ _ _ _ _ _ _ _ _ _ _ _ _ _ _ _ _ _ _ _ _ _ _ _ _ _ _ _ _ _ _ _ _ _ _ _ _ _ _ _ _ _ _ _ _ _ _ _ _ _ _ _ _ _ _ _ _ _ _ _ _ _ _ _ _ _ _ _ _ _ _ _ _ _ _ _ _ _ _ _ _ _ _ _ _ _ _ _ _ _ _ _ _ _ _ _ _ _ _ _ _ _ _ _ _ _ _ _ _ _ _ _ _ HO hB (by omega) ?_
  intro v3 w3 z138 z139 z140 z141 z142 z143 z144 z145 z146 z147 z148 z149 z150 z151 z152 z153 z154 z155 z156 z157 z158 z159 z160 z161 z162 z163 z164 z165 z166 z167 z168 HOx HB3
  have HO3 : Hid (Bytes B (acc ++ esc r) v3 w3) := Lib.hid (by rw [HE.out]; exact HOx.out)
  clear HOx
  go_wp2_with fail
  exact HK.out _ _ _ _ _ _ _ _ _ _ _ _ _ _ _ _ _ _ _ _ _ _ _ _ _ _ _ _ _ _ _ _ _ _ _ _ _ _ _ _ _ _ _ _ _ _ _ _ _ _ _ _ _ _ _ _ _ _ _ _ _ _ _ _ _ _ _ _ _ _ _ _ _ _ _ _ _ _ _ _ _ _ _ _ _ _ _ _ _ _ _ _ _ _ _ _ _ _ _ _ _ _ _ _ _ _ _ _ _ _ _ _ _ _ _ _ _ _ _ _ _ _ _ _ _ _ _ _ _ _ _ _ _ _ _ _ _ _ _ _ _ _ _ _ _ _ _ _ _ _ _ _ _ _ _ _ _ _ _ _ _ _ _ _ _ _ _ _ _ (by go_num) HO3 HB3
end Go.Proofs.Ytmgjioffppphbaa
