/- encoding/base64: an Encoding in its block; EncodedLen (31), DecodedLen (36). -/
import Derived.Test.YtmfbnmjmgpafmaaDoorB64P
import Derived.Test.YtmfbnmjmgpafmaaDoorProg
import Derived.Handy
import Derived.WalkKit
import Derived.WalkSpells
import Derived.Lib.SmallJoins
import Derived.WalkLawsBesides
namespace Go.Proofs.YtmfbnmjmgpafmaaDoor
open Go.RowKit
set_option linter.unusedVariables false
set_option linter.unusedSimpArgs false
/-- The Encoding in block B. -/
structure EncAt (B : Nat) (w : World) : Prop where
  enc : ∀ d, d < 64 → w.cell? ⟨B, d, none⟩ = some (.int .u8 (dg d : Nat))
  dec : ∀ c, c < 256 → w.cell? ⟨B, 64 + c, none⟩ = some (.int .u8 (dv c : Nat))
  pad : w.cell? ⟨B, 320, none⟩ = some (.int .i32 61)
  strict : w.cell? ⟨B, 321, none⟩ = some (.bool false)
  lt : B < w.heap.size
theorem EncAt.below {B C : Nat} {w w' : World} (h : EncAt B w) (hC : B < C) (hb : Below C w w') : EncAt B w' :=
  ⟨fun d hd => (hb.cell hC).trans (h.enc d hd), fun c hc => (hb.cell hC).trans (h.dec c hc), (hb.cell hC).trans h.pad, (hb.cell hC).trans h.strict, Nat.lt_of_lt_of_le h.lt hb.size⟩
set_option maxRecDepth 100000 in
theorem encodedLen_any (B n : Nat) (w : World) (h : EncAt B w) (hn : n ≤ 1000000) :
    Calls Tryd.prog 31 #[.pointer (some ⟨B, 0, none⟩), .int .i64 (n : Int)] w fun e w' => e = .returned (.int .i64 (((n + 2) / 3 * 4 : Nat) : Int)) ∧ w' = w := by
  have hp := h.pad
  clear h
  go_enter Tryd.func31, Tryd.ntmps31
  go_wp2
  go_ret
  refine ⟨?_, rfl⟩
  show Ending.returned (.int .i64 _) = _
  congr 2
set_option maxRecDepth 100000 in
theorem decodedLen_any (B n : Nat) (w : World) (h : EncAt B w) (hn : n ≤ 1000000) :
    Calls Tryd.prog 36 #[.pointer (some ⟨B, 0, none⟩), .int .i64 (n : Int)] w fun e w' => e = .returned (.int .i64 ((n / 4 * 3 : Nat) : Int)) ∧ w' = w := by
  have hp := h.pad
  clear h
  go_enter Tryd.func36, Tryd.ntmps36
  go_wp2_with go_in
  go_ret
  refine ⟨?_, rfl⟩
  show Ending.returned (.int .i64 _) = _
  congr 2
end Go.Proofs.YtmfbnmjmgpafmaaDoor
