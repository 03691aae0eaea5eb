/- The eight bytes of a hash: spec.HashBytes. -/
import Derived.Test.YtonndmljendcoaaDoorHashR
import Derived.Maps.AppendAt
namespace Go.Proofs.YtonndmljendcoaaDoor
open Go.RowKit
set_option linter.unusedVariables false
set_option linter.unusedSimpArgs false
/-- The eight bytes, highest first. -/
def be8 (h : UInt64) : List Value := [.int .u8 ((h.toNat : Int) / 72057594037927936 % 256), .int .u8 ((h.toNat : Int) / 281474976710656 % 256), .int .u8 ((h.toNat : Int) / 1099511627776 % 256), .int .u8 ((h.toNat : Int) / 4294967296 % 256),
  .int .u8 ((h.toNat : Int) / 16777216 % 256), .int .u8 ((h.toNat : Int) / 65536 % 256), .int .u8 ((h.toNat : Int) / 256 % 256), .int .u8 ((h.toNat : Int) % 256)]
theorem infoU8 : (Tryd.prog.info? 5).map (fun i => (i.zero, i.size, i.bytes)) = some (some (.int .u8 0), 1, 1) := by kernel_rfl
theorem one_new (w : World) (B : Nat) (a : Value) (t : TypeId) (h : w.heap.size = B) : ∀ j u, ([a] : List Value)[j]? = some u → (w.alloc (.cells #[a] t)).cell? ((⟨B, 0, none⟩ : Addr).add j) = some u := by
  subst h
  exact cell_one_new w a t
set_option maxRecDepth 100000 in
set_option maxHeartbeats 4000000 in
theorem bytes_of (h : UInt64) (w : World) : Calls Tryd.prog 8 #[.int .u64 (h.toNat : Int)] w fun e w' => ∃ v, e = .returned v ∧ w'.ownsRow w.heap.size 5 1 v 8 (be8 h) ∧ Below w.heap.size w w' := by
  obtain ⟨i0, hi, hz0, hz1, hz2⟩ := info_parts infoU8
  go_enter Tryd.func8, Tryd.ntmps8
  go_wp2
  go_loopw [3, 4] (fun v s wr => ∃ i : Nat, i ≤ 8 ∧ s = .int .i64 (56 - 8 * (i : Int)) ∧ Hid (wr.ownsRow w.heap.size 5 1 v i ((be8 h).take i)) ∧ Below w.heap.size w wr ∧ w.heap.size ≤ wr.heap.size) (fun _ s _ => (intOf s + 8).toNat)
  case atStart => exact ⟨0, by omega, rfl, Lib.hid (World.ownsRow_nil _ _ _ _), Below.refl _ w, Nat.le_refl _⟩
  case round =>
    obtain ⟨i, hi8, rfl, HO, hb, hsz⟩ := hrel
    by_cases hlt : i = 8
    · subst hlt
      go_wp2
      go_ret
      exact ⟨_, rfl, HO.out, hb⟩
    · have hcs : i = 0 ∨ i = 1 ∨ i = 2 ∨ i = 3 ∨ i = 4 ∨ i = 5 ∨ i = 6 ∨ i = 7 := by omega
      clear hi8 hlt
      have HB := Lib.hid hb
      clear hb
      rcases hcs with rfl | rfl | rfl | rfl | rfl | rfl | rfl | rfl
      all_goals
        go_wp2_with (at_builtin; refine wpList_append_own _ rfl _ _ 22 rfl w.heap.size 5 i0 (.int .u8 0) 1 1 Tryd.underlying22 hi hz0 hz1 hz2 rfl (by decide) _ _ _ rfl (HO.out.alloc _) ⟨wr.heap.size, 0, none⟩ 1 1 [_] rfl rfl (one_new _ _ _ _ (by simp)) (by simp [Value.oneCell']) (by unfold maxLen; omega) (by omega) (by simp; omega) ?_)
        intro v' w2 hown hgrow _
        have hb2 := Lib.hid ((HB.out.alloc hsz _).grown hgrow (by simp; omega) (fun k hk => (HO.out.lt k hk).1))
        have hs2 : w.heap.size ≤ w2.heap.size := hb2.out.size
        have HO2 := Lib.hid hown
        clear hown hgrow
        go_wp2
        go_roundw
      all_goals first
        | exact ⟨1, by omega, rfl, HO2, hb2.out, hs2⟩
        | exact ⟨2, by omega, rfl, HO2, hb2.out, hs2⟩
        | exact ⟨3, by omega, rfl, HO2, hb2.out, hs2⟩
        | exact ⟨4, by omega, rfl, HO2, hb2.out, hs2⟩
        | exact ⟨5, by omega, rfl, HO2, hb2.out, hs2⟩
        | exact ⟨6, by omega, rfl, HO2, hb2.out, hs2⟩
        | exact ⟨7, by omega, rfl, HO2, hb2.out, hs2⟩
        | exact ⟨8, by omega, rfl, HO2, hb2.out, hs2⟩
        | decide
end Go.Proofs.YtonndmljendcoaaDoor
