/- The shelf's contract of utf8.DecodeRune (the new make), laid at this dump by hand: the same form as lay-plain's. -/
import Derived.Shelf.Spec.DecodeRune
import Derived.Lib.LaidU8T
import Derived.Test.YtnmielbjdadggaaDoorProg
namespace Go.Proofs
open Go.Shelf Go.RowKit
def Tryd.laysNm7n32_ren : Go.Shelf.Ren := ⟨fun | 32 => 9 | 49 => 10 | n => n, fun | 0 => 0 | 3 => 3 | 4 => 4 | 5 => 5 | 21 => 21 | 25 => 32 | 30 => 36 | 33 => 39 | 66 => 41 | 68 => 43 | 69 => 44 | n => n, fun | 2 => 0 | 3 => 1 | n => n⟩
theorem Tryd.laysNm7n32 : Go.Proofs.Lays7.n32 Tryd.prog Tryd.laysNm7n32_ren := {
  mixed := by kernel_rfl
  f32 := Tryd.func9.trans (congrArg some (by kernel_rfl))
  f49 := Tryd.func10.trans (congrArg some (by kernel_rfl))
  t0 := Tryd.underlying0
  a0 := Tryd.isAgg0
  z0 := Tryd.sizeOf0
  v0 := Tryd.zeroValue0
  i0 := by kernel_rfl
  t3 := Tryd.underlying3
  a3 := Tryd.isAgg3
  z3 := Tryd.sizeOf3
  v3 := Tryd.zeroValue3
  i3 := by kernel_rfl
  t4 := Tryd.underlying4
  a4 := Tryd.isAgg4
  z4 := Tryd.sizeOf4
  v4 := Tryd.zeroValue4
  i4 := by kernel_rfl
  t5 := Tryd.underlying5
  a5 := Tryd.isAgg5
  z5 := Tryd.sizeOf5
  v5 := Tryd.zeroValue5
  i5 := by kernel_rfl
  t21 := Tryd.underlying21
  a21 := Tryd.isAgg21
  z21 := Tryd.sizeOf21
  v21 := Tryd.zeroValue21
  i21 := by kernel_rfl
  t25 := Tryd.underlying32
  a25 := Tryd.isAgg32
  z25 := Tryd.sizeOf32
  v25 := Tryd.zeroValue32
  i25 := by kernel_rfl
  t30 := Tryd.underlying36
  a30 := Tryd.isAgg36
  z30 := Tryd.sizeOf36
  v30 := Tryd.zeroValue36
  i30 := by kernel_rfl
  t33 := Tryd.underlying39
  a33 := Tryd.isAgg39
  z33 := Tryd.sizeOf39
  v33 := Tryd.zeroValue39
  i33 := by kernel_rfl
  t66 := Tryd.underlying41
  a66 := Tryd.isAgg41
  z66 := Tryd.sizeOf41
  t68 := Tryd.underlying43
  a68 := Tryd.isAgg43
  z68 := Tryd.sizeOf43
  v68 := Tryd.zeroValue43
  i68 := by kernel_rfl
  t69 := Tryd.underlying44
  a69 := Tryd.isAgg44
  z69 := Tryd.sizeOf44
  v69 := Tryd.zeroValue44
  i69 := by kernel_rfl
  g2 := by kernel_rfl
  g3 := by kernel_rfl }
theorem Tryd.utf8_DecodeRune (s : ByteArray) (b off cap : Nat) (w : World) (hT : Lib.Utf8Tabs 0 1 w)
    (hp : ∀ j, j < s.size → w.cell? ⟨b, off + j, none⟩ = some (.int .u8 (s.get! j).toNat)) :
    Calls Tryd.prog 9 #[.slice (some ⟨b, off, none⟩) s.size cap] w fun e w' => e = .returned (.tuple #[.int .i32 (Lib.decodeGo s).1, .int .i64 (Lib.decodeGo s).2]) ∧ Below w.heap.size w w' :=
  Any7.utf8_DecodeRune Tryd.laysNm7n32 s b off cap w hT hp
end Go.Proofs
