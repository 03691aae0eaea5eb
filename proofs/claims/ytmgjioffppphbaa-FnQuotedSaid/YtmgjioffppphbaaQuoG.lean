/- internalQuote's two regions that draw their order: a sign's escape of six or of twelve bytes is appended. -/
import Derived.Test.YtmgjioffppphbaaReg
import Derived.Test.YtmgjioffppphbaaUnits
import Derived.Test.YtmgjioffppphbaaQuoR
import Derived.Lib.AppendStr
import Derived.Deep.AppendLies
import Derived.OwnWalk
namespace Go.Proofs.Ytmgjioffppphbaa
open Go.RowKit
set_option linter.unusedVariables false
set_option linter.unusedSimpArgs false
def numCells (l : List Nat) : List Value := l.map fun n : Nat => Value.int .u8 (n : Int)
theorem cells_of (s : ByteArray) : Lib.strCells s = numCells (nums s) := by simp [Lib.strCells, numCells, nums]
theorem cells_app (l m : List Nat) : numCells (l ++ m) = numCells l ++ numCells m := by simp [numCells]
theorem infoU8 : (Try.prog.info? 5).map (fun i => (i.zero, i.size, i.bytes)) = some (some (.int .u8 0), 1, 1) := by kernel_rfl
/-- What stands at the second loop's head: the bytes that were written. -/
def Bytes (B : Nat) (acc : List Nat) (v : Value) (W : World) : Prop := W.ownsRow B 5 1 v (acc.length + 1) (numCells (34 :: acc))
theorem Bytes.app {B m : Nat} {acc l : List Nat} {v : Value} {W : World} (h : W.ownsRow B 5 1 v (acc.length + 1 + m) (numCells (34 :: acc) ++ numCells l)) (hl : l.length = m) : Bytes B (acc ++ l) v W := by
  unfold Bytes
  have e : numCells (34 :: (acc ++ l)) = numCells (34 :: acc) ++ numCells l := by rw [← cells_app]; rfl
  rw [e, List.length_append, hl, show acc.length + m + 1 = acc.length + 1 + m by omega]
  exact h
theorem hexAt (d : Nat) (h : d < 16) : ((⟨#[48, 49, 50, 51, 52, 53, 54, 55, 56, 57, 65, 66, 67, 68, 69, 70]⟩ : ByteArray)[d]'h).toNat = hx d := by
  have : ∀ d : Fin 16, ((⟨#[48, 49, 50, 51, 52, 53, 54, 55, 56, 57, 65, 66, 67, 68, 69, 70]⟩ : ByteArray)[d.val]'d.isLt).toNat = hx d.val := by decide +kernel
  exact this ⟨d, h⟩
theorem and15 (a : Nat) (ha : a < 2147483648) : bits .and .i32 (a : Int) 15 = ((a % 16 : Nat) : Int) := by
  have hx : a &&& 15 = a % 16 := nat_mask4 a
  have h1 := ofInt_u32 a (by omega)
  have h2 := ofInt_u32 15 (by omega)
  show IntKind.i32.wrap ((BitVec.ofInt 32 (a : Int) &&& BitVec.ofInt 32 ((15 : Nat) : Int)).toNat : Int) = _
  rw [BitVec.toNat_and, h1, h2, IntKind.wrap_i32, hx]
  omega
/-- A unit's four digits, as the walk has them. -/
structure Digs (r d0 d1 d2 d3 : Nat) : Prop where
  e0 : (r : Int) / 4096 = (d0 : Int)
  e1 : bits .and .i32 ((r : Int) / 256) 15 = (d1 : Int)
  e2 : bits .and .i32 ((r : Int) / 16) 15 = (d2 : Int)
  e3 : bits .and .i32 (r : Int) 15 = (d3 : Int)
  l0 : d0 < 16
  l1 : d1 < 16
  l2 : d2 < 16
  l3 : d3 < 16
  u : u4 r = [92, 117, hx d0, hx d1, hx d2, hx d3]
theorem digs_of (r : Nat) (hr : r ≤ 65535) : Digs r (r / 4096) (r / 256 % 16) (r / 16 % 16) (r % 16) := by
  refine ⟨by omega, ?_, ?_, and15 r (by omega), by omega, by omega, by omega, by omega, ?_⟩
  · rw [show (r : Int) / 256 = ((r / 256 : Nat) : Int) by omega]; exact and15 _ (by omega)
  · rw [show (r : Int) / 16 = ((r / 16 : Nat) : Int) by omega]; exact and15 _ (by omega)
  · unfold u4; rw [show r / 4096 % 16 = r / 4096 by omega]
/-- A region of the function's body, by its number. -/
def findRegion (n : Nat) : Code → Option (Array Oper)
  | .region k ops _ => if k = n then some ops else none
  | .seq a b => match findRegion n a with
    | some c => some c
    | none => findRegion n b
  | .block _ c => findRegion n c
  | .loop c => findRegion n c
  | .scope c => findRegion n c
  | .cond _ a b => match findRegion n a with
    | some c => some c
    | none => findRegion n b
  | _ => none
noncomputable def ops41 : Array Oper := (Try.f10.body.bind (findRegion 41)).getD #[]
noncomputable def ops45 : Array Oper := (Try.f10.body.bind (findRegion 45)).getD #[]
set_option maxRecDepth 1000000 in
set_option maxHeartbeats 8000000 in
theorem region41 (Q : Exit → Act → World → Prop) (W : World) (B : Nat) (acc : List Nat) (r : Nat) (hr : r ≤ 65535) (y0 y1 y2 y3 y4 y5 y6 y7 y8 y9 y10 y11 y12 y14 y15 y16 y17 y18 y19 y20 y21 y22 y23 y24 y25 y26 y27 y28 y29 y30 y31 y32 y33 y34 y35 y36 y37 y38 y39 y40 y41 y42 y43 y44 y45 y46 y47 y48 y49 y50 y51 y52 y53 y54 y55 y56 y57 y58 y59 y60 y61 y62 y63 y64 y65 y66 y67 y68 y69 y70 y71 y72 y73 y74 y75 y76 y77 y78 y79 y80 y81 y82 y83 y84 y85 y86 y87 y88 y89 y90 y91 y92 y93 y94 y95 y96 y97 y98 y99 y100 y101 y102 y103 y104 y105 y106 y107 y108 y109 y110 y111 y112 y113 y114 y115 y116 y117 y118 y119 y120 y121 y122 y123 y124 y125 y126 y127 y128 y129 y130 y131 y132 y133 y134 y135 y136 y137 y138 y139 y140 y141 y142 y143 y144 y145 y146 y147 y148 y149 y150 y151 y152 y153 y154 y155 y156 y157 y158 y159 y160 y161 y162 y163 y164 y165 y166 y167 y168 y169 y170 y171 y172 y173 y174 y175 y176 y177 y178 y179 y180 y181 y182 y183 y184 y185 y186 y187 y188 y189 y190 y191 y192 y193 y194 y195 y196 y197 y198 y199 y200 y201 y202 y203 y204 y205 y206 y207 y208 y209 y210 y211 y212 y213 y214 y215 y216 y217 y218 y219 y220 y221 y222 y223 y224 y225 y226 y227 y228 y229 y230 : Value) (HO : Hid (Bytes B acc y10 W)) (hB : B ≤ W.heap.size) (hal : acc.length ≤ 4000)
    (hK : ∀ (v3 : Value) (w3 : World) (x112 x113 x114 x115 x116 x117 x118 x119 x120 x121 x122 x123 x124 x125 x126 x127 x128 : Value), Hid (Bytes B (acc ++ u4 r) v3 w3) → Hid (∀ w0, Below B w0 W → Below B w0 w3) →
      Q .normal ⟨#[y0, y1, y2, y3, y4, y5, y6, y7, y8, y9, v3, y11, y12, .int .i32 (r : Int), y14, y15, y16, y17, y18, y19, y20, y21, y22, y23, y24, y25, y26, y27, y28, y29, y30, y31, y32, y33, y34, y35, y36, y37, y38, y39, y40, y41, y42, y43, y44, y45, y46, y47, y48, y49, y50, y51, y52, y53, y54, y55, y56, y57, y58, y59, y60, y61, y62, y63, y64, y65, y66, y67, y68, y69, y70, y71, y72, y73, y74, y75, y76, y77, y78, y79, y80, y81, y82, y83, y84, y85, y86, y87, y88, y89, y90, y91, y92, y93, y94, y95, y96, y97, y98, y99, y100, y101, y102, y103, y104, y105, y106, y107, y108, y109, y110, y111, x112, x113, x114, x115, x116, x117, x118, x119, x120, x121, x122, x123, x124, x125, x126, x127, x128, y129, y130, y131, y132, y133, y134, y135, y136, y137, y138, y139, y140, y141, y142, y143, y144, y145, y146, y147, y148, y149, y150, y151, y152, y153, y154, y155, y156, y157, y158, y159, y160, y161, y162, y163, y164, y165, y166, y167, y168, y169, y170, y171, y172, y173, y174, y175, y176, y177, y178, y179, y180, y181, y182, y183, y184, y185, y186, y187, y188, y189, y190, y191, y192, y193, y194, y195, y196, y197, y198, y199, y200, y201, y202, y203, y204, y205, y206, y207, y208, y209, y210, y211, y212, y213, y214, y215, y216, y217, y218, y219, y220, y221, y222, y223, y224, y225, y226, y227, y228, y229, y230], []⟩ w3) :
    (Code.region 41 ops41 true).wp Try.prog Q ⟨#[y0, y1, y2, y3, y4, y5, y6, y7, y8, y9, y10, y11, y12, .int .i32 (r : Int), y14, y15, y16, y17, y18, y19, y20, y21, y22, y23, y24, y25, y26, y27, y28, y29, y30, y31, y32, y33, y34, y35, y36, y37, y38, y39, y40, y41, y42, y43, y44, y45, y46, y47, y48, y49, y50, y51, y52, y53, y54, y55, y56, y57, y58, y59, y60, y61, y62, y63, y64, y65, y66, y67, y68, y69, y70, y71, y72, y73, y74, y75, y76, y77, y78, y79, y80, y81, y82, y83, y84, y85, y86, y87, y88, y89, y90, y91, y92, y93, y94, y95, y96, y97, y98, y99, y100, y101, y102, y103, y104, y105, y106, y107, y108, y109, y110, y111, y112, y113, y114, y115, y116, y117, y118, y119, y120, y121, y122, y123, y124, y125, y126, y127, y128, y129, y130, y131, y132, y133, y134, y135, y136, y137, y138, y139, y140, y141, y142, y143, y144, y145, y146, y147, y148, y149, y150, y151, y152, y153, y154, y155, y156, y157, y158, y159, y160, y161, y162, y163, y164, y165, y166, y167, y168, y169, y170, y171, y172, y173, y174, y175, y176, y177, y178, y179, y180, y181, y182, y183, y184, y185, y186, y187, y188, y189, y190, y191, y192, y193, y194, y195, y196, y197, y198, y199, y200, y201, y202, y203, y204, y205, y206, y207, y208, y209, y210, y211, y212, y213, y214, y215, y216, y217, y218, y219, y220, y221, y222, y223, y224, y225, y226, y227, y228, y229, y230], []⟩ W := by
  obtain ⟨i0, hi0, hz0, hz1, hz2⟩ := info_parts infoU8
  have HK := Lib.hid hK
  clear hK
  conv => arg 2; arg 2; whnf
  have HDD := Lib.hid (digs_of r (by omega))
  generalize q0 : r / 4096 = d0 at HDD
  generalize q1 : r / 256 % 16 = d1 at HDD
  generalize q2 : r / 16 % 16 = d2 at HDD
  generalize q3 : r % 16 = d3 at HDD
  clear q0 q1 q2 q3
  obtain ⟨de0, de1, de2, de3, dl0, dl1, dl2, dl3, -⟩ := HDD.out
  have dx0 := hexAt d0 dl0
  have dg0 : (0 : Int) ≤ (d0 : Int) := Int.natCast_nonneg _
  have dj0 : (d0 : Int) < 16 := by omega
  have dx1 := hexAt d1 dl1
  have dg1 : (0 : Int) ≤ (d1 : Int) := Int.natCast_nonneg _
  have dj1 : (d1 : Int) < 16 := by omega
  have dx2 := hexAt d2 dl2
  have dg2 : (0 : Int) ≤ (d2 : Int) := Int.natCast_nonneg _
  have dj2 : (d2 : Int) < 16 := by omega
  have dx3 := hexAt d3 dl3
  have dg3 : (0 : Int) ≤ (d3 : Int) := Int.natCast_nonneg _
  have dj3 : (d3 : Int) < 16 := by omega
  refine wp_region_pure 15 (by kernel_rfl) (by kernel_rfl) ?_
  simp only [List.take_succ_cons, List.take_zero, List.drop_succ_cons, List.drop_zero]
  iterate 15 (refine wpPure_step (a' := ?_) (fun W' K hK => ?_) ?_; rotate_left; (unfold plStep; go_simp; exact hK))
  show plList _ _ _ _ _ _
  refine plList_step (fun K hK => ?_)
  unfold plStep
  go_simp
  refine hK _ _ ?_
  clear hK K
  refine plList_step (fun K hK => ?_)
  refine plStep_append rfl (.tmp 112) (.tmp 127) 31 rfl B 5 i0 (.int .u8 0) 1 1 Try.underlying31 hi0 hz0 hz1 hz2 rfl (by decide) y10 (acc.length + 1) (numCells (34 :: acc)) rfl (by first | exact HO.out.drew.alloc _ | exact (HO.out.alloc _).drew) ⟨W.heap.size, 0, none⟩ 6 6 (numCells [92, 117, hx d0, hx d1, hx d2, hx d3]) rfl rfl (by first | exact World.news_of_block (heap_alloc_new W.drew _) | exact World.news_of_block (heap_alloc_new W _)) (by simp [numCells, Value.oneCell']) (by unfold maxLen; omega) (by omega) (by simp; omega) ?_
  intro v3 w3 hown3 hg3
  refine hK _ _ ?_
  clear hK K
  refine plList_step (fun K hK => ?_)
  unfold plStep
  go_simp
  refine hK _ _ ?_
  clear hK K
  refine plList_nil ?_
  refine HK.out _ _ _ _ _ _ _ _ _ _ _ _ _ _ _ _ _ _ _ (Lib.hid (by rw [HDD.out.u]; exact Bytes.app hown3 rfl)) (Lib.hid fun w0 hb => ?_)
  first | exact (hb.drew.alloc hB _).grown hg3 (by simp; omega) (fun k hk => (HO.out.lt k hk).1) | exact ((hb.alloc hB _).drew).grown hg3 (by simp; omega) (fun k hk => (HO.out.lt k hk).1)
set_option maxRecDepth 1000000 in
set_option maxHeartbeats 8000000 in
theorem region45 (Q : Exit → Act → World → Prop) (W : World) (B : Nat) (acc : List Nat) (h l : Nat) (hh : h ≤ 65535) (hl : l ≤ 65535) (y0 y1 y2 y3 y4 y5 y6 y7 y8 y9 y10 y11 y12 y13 y14 y15 y18 y19 y20 y21 y22 y23 y24 y25 y26 y27 y28 y29 y30 y31 y32 y33 y34 y35 y36 y37 y38 y39 y40 y41 y42 y43 y44 y45 y46 y47 y48 y49 y50 y51 y52 y53 y54 y55 y56 y57 y58 y59 y60 y61 y62 y63 y64 y65 y66 y67 y68 y69 y70 y71 y72 y73 y74 y75 y76 y77 y78 y79 y80 y81 y82 y83 y84 y85 y86 y87 y88 y89 y90 y91 y92 y93 y94 y95 y96 y97 y98 y99 y100 y101 y102 y103 y104 y105 y106 y107 y108 y109 y110 y111 y112 y113 y114 y115 y116 y117 y118 y119 y120 y121 y122 y123 y124 y125 y126 y127 y128 y129 y130 y131 y132 y133 y134 y135 y136 y137 y138 y139 y140 y141 y142 y143 y144 y145 y146 y147 y148 y149 y150 y151 y152 y153 y154 y155 y156 y157 y158 y159 y160 y161 y162 y163 y164 y165 y166 y167 y168 y169 y170 y171 y172 y173 y174 y175 y176 y177 y178 y179 y180 y181 y182 y183 y184 y185 y186 y187 y188 y189 y190 y191 y192 y193 y194 y195 y196 y197 y198 y199 y200 y201 y202 y203 y204 y205 y206 y207 y208 y209 y210 y211 y212 y213 y214 y215 y216 y217 y218 y219 y220 y221 y222 y223 y224 y225 y226 y227 y228 y229 y230 : Value) (HO : Hid (Bytes B acc y10 W)) (hB : B ≤ W.heap.size) (hal : acc.length ≤ 4000)
    (hK : ∀ (v3 : Value) (w3 : World) (x138 x139 x140 x141 x142 x143 x144 x145 x146 x147 x148 x149 x150 x151 x152 x153 x154 x155 x156 x157 x158 x159 x160 x161 x162 x163 x164 x165 x166 x167 x168 : Value), Hid (Bytes B (acc ++ (u4 h ++ u4 l)) v3 w3) → Hid (∀ w0, Below B w0 W → Below B w0 w3) →
      Q .normal ⟨#[y0, y1, y2, y3, y4, y5, y6, y7, y8, y9, v3, y11, y12, y13, y14, y15, .int .i32 (h : Int), .int .i32 (l : Int), y18, y19, y20, y21, y22, y23, y24, y25, y26, y27, y28, y29, y30, y31, y32, y33, y34, y35, y36, y37, y38, y39, y40, y41, y42, y43, y44, y45, y46, y47, y48, y49, y50, y51, y52, y53, y54, y55, y56, y57, y58, y59, y60, y61, y62, y63, y64, y65, y66, y67, y68, y69, y70, y71, y72, y73, y74, y75, y76, y77, y78, y79, y80, y81, y82, y83, y84, y85, y86, y87, y88, y89, y90, y91, y92, y93, y94, y95, y96, y97, y98, y99, y100, y101, y102, y103, y104, y105, y106, y107, y108, y109, y110, y111, y112, y113, y114, y115, y116, y117, y118, y119, y120, y121, y122, y123, y124, y125, y126, y127, y128, y129, y130, y131, y132, y133, y134, y135, y136, y137, x138, x139, x140, x141, x142, x143, x144, x145, x146, x147, x148, x149, x150, x151, x152, x153, x154, x155, x156, x157, x158, x159, x160, x161, x162, x163, x164, x165, x166, x167, x168, y169, y170, y171, y172, y173, y174, y175, y176, y177, y178, y179, y180, y181, y182, y183, y184, y185, y186, y187, y188, y189, y190, y191, y192, y193, y194, y195, y196, y197, y198, y199, y200, y201, y202, y203, y204, y205, y206, y207, y208, y209, y210, y211, y212, y213, y214, y215, y216, y217, y218, y219, y220, y221, y222, y223, y224, y225, y226, y227, y228, y229, y230], []⟩ w3) :
    (Code.region 45 ops45 true).wp Try.prog Q ⟨#[y0, y1, y2, y3, y4, y5, y6, y7, y8, y9, y10, y11, y12, y13, y14, y15, .int .i32 (h : Int), .int .i32 (l : Int), y18, y19, y20, y21, y22, y23, y24, y25, y26, y27, y28, y29, y30, y31, y32, y33, y34, y35, y36, y37, y38, y39, y40, y41, y42, y43, y44, y45, y46, y47, y48, y49, y50, y51, y52, y53, y54, y55, y56, y57, y58, y59, y60, y61, y62, y63, y64, y65, y66, y67, y68, y69, y70, y71, y72, y73, y74, y75, y76, y77, y78, y79, y80, y81, y82, y83, y84, y85, y86, y87, y88, y89, y90, y91, y92, y93, y94, y95, y96, y97, y98, y99, y100, y101, y102, y103, y104, y105, y106, y107, y108, y109, y110, y111, y112, y113, y114, y115, y116, y117, y118, y119, y120, y121, y122, y123, y124, y125, y126, y127, y128, y129, y130, y131, y132, y133, y134, y135, y136, y137, y138, y139, y140, y141, y142, y143, y144, y145, y146, y147, y148, y149, y150, y151, y152, y153, y154, y155, y156, y157, y158, y159, y160, y161, y162, y163, y164, y165, y166, y167, y168, y169, y170, y171, y172, y173, y174, y175, y176, y177, y178, y179, y180, y181, y182, y183, y184, y185, y186, y187, y188, y189, y190, y191, y192, y193, y194, y195, y196, y197, y198, y199, y200, y201, y202, y203, y204, y205, y206, y207, y208, y209, y210, y211, y212, y213, y214, y215, y216, y217, y218, y219, y220, y221, y222, y223, y224, y225, y226, y227, y228, y229, y230], []⟩ W := by
  obtain ⟨i0, hi0, hz0, hz1, hz2⟩ := info_parts infoU8
  have HK := Lib.hid hK
  clear hK
  conv => arg 2; arg 2; whnf
  have HDC := Lib.hid (digs_of h (by omega))
  generalize q0 : h / 4096 = c0 at HDC
  generalize q1 : h / 256 % 16 = c1 at HDC
  generalize q2 : h / 16 % 16 = c2 at HDC
  generalize q3 : h % 16 = c3 at HDC
  clear q0 q1 q2 q3
  have HDD := Lib.hid (digs_of l (by omega))
  generalize q0 : l / 4096 = d0 at HDD
  generalize q1 : l / 256 % 16 = d1 at HDD
  generalize q2 : l / 16 % 16 = d2 at HDD
  generalize q3 : l % 16 = d3 at HDD
  clear q0 q1 q2 q3
  obtain ⟨ce0, ce1, ce2, ce3, cl0, cl1, cl2, cl3, -⟩ := HDC.out
  have cx0 := hexAt c0 cl0
  have cg0 : (0 : Int) ≤ (c0 : Int) := Int.natCast_nonneg _
  have cj0 : (c0 : Int) < 16 := by omega
  have cx1 := hexAt c1 cl1
  have cg1 : (0 : Int) ≤ (c1 : Int) := Int.natCast_nonneg _
  have cj1 : (c1 : Int) < 16 := by omega
  have cx2 := hexAt c2 cl2
  have cg2 : (0 : Int) ≤ (c2 : Int) := Int.natCast_nonneg _
  have cj2 : (c2 : Int) < 16 := by omega
  have cx3 := hexAt c3 cl3
  have cg3 : (0 : Int) ≤ (c3 : Int) := Int.natCast_nonneg _
  have cj3 : (c3 : Int) < 16 := by omega
  obtain ⟨de0, de1, de2, de3, dl0, dl1, dl2, dl3, -⟩ := HDD.out
  have dx0 := hexAt d0 dl0
  have dg0 : (0 : Int) ≤ (d0 : Int) := Int.natCast_nonneg _
  have dj0 : (d0 : Int) < 16 := by omega
  have dx1 := hexAt d1 dl1
  have dg1 : (0 : Int) ≤ (d1 : Int) := Int.natCast_nonneg _
  have dj1 : (d1 : Int) < 16 := by omega
  have dx2 := hexAt d2 dl2
  have dg2 : (0 : Int) ≤ (d2 : Int) := Int.natCast_nonneg _
  have dj2 : (d2 : Int) < 16 := by omega
  have dx3 := hexAt d3 dl3
  have dg3 : (0 : Int) ≤ (d3 : Int) := Int.natCast_nonneg _
  have dj3 : (d3 : Int) < 16 := by omega
  refine wp_region_pure 29 (by kernel_rfl) (by kernel_rfl) ?_
  simp only [List.take_succ_cons, List.take_zero, List.drop_succ_cons, List.drop_zero]
  iterate 29 (refine wpPure_step (a' := ?_) (fun W' K hK => ?_) ?_; rotate_left; (unfold plStep; go_simp; exact hK))
  show plList _ _ _ _ _ _
  refine plList_step (fun K hK => ?_)
  unfold plStep
  go_simp
  refine hK _ _ ?_
  clear hK K
  refine plList_step (fun K hK => ?_)
  refine plStep_append rfl (.tmp 138) (.tmp 167) 31 rfl B 5 i0 (.int .u8 0) 1 1 Try.underlying31 hi0 hz0 hz1 hz2 rfl (by decide) y10 (acc.length + 1) (numCells (34 :: acc)) rfl (by first | exact HO.out.drew.alloc _ | exact (HO.out.alloc _).drew) ⟨W.heap.size, 0, none⟩ 12 12 (numCells [92, 117, hx c0, hx c1, hx c2, hx c3, 92, 117, hx d0, hx d1, hx d2, hx d3]) rfl rfl (by first | exact World.news_of_block (heap_alloc_new W.drew _) | exact World.news_of_block (heap_alloc_new W _)) (by simp [numCells, Value.oneCell']) (by unfold maxLen; omega) (by omega) (by simp; omega) ?_
  intro v3 w3 hown3 hg3
  refine hK _ _ ?_
  clear hK K
  refine plList_step (fun K hK => ?_)
  unfold plStep
  go_simp
  refine hK _ _ ?_
  clear hK K
  refine plList_nil ?_
  refine HK.out _ _ _ _ _ _ _ _ _ _ _ _ _ _ _ _ _ _ _ _ _ _ _ _ _ _ _ _ _ _ _ _ _ (Lib.hid (by rw [HDC.out.u, HDD.out.u]; exact Bytes.app hown3 rfl)) (Lib.hid fun w0 hb => ?_)
  first | exact (hb.drew.alloc hB _).grown hg3 (by simp; omega) (fun k hk => (HO.out.lt k hk).1) | exact ((hb.alloc hB _).drew).grown hg3 (by simp; omega) (fun k hk => (HO.out.lt k hk).1)
end Go.Proofs.Ytmgjioffppphbaa
