/- spec.ReadString's own function: four digits of sixteen are read. -/
import Derived.Test.YtmgjioffppphbaaQuoW
import Derived.Lib.ConvBytes
import Derived.Lib.SmallJoins
import Derived.Deep.RegionWith
namespace Go.Proofs.Ytmgjioffppphbaa
open Go.RowKit
set_option linter.unusedVariables false
set_option linter.unusedSimpArgs false
theorem made_bytes (s : ByteArray) (w : World) : ∃ (W0 : World) (cap : Nat), (convert 9 31 (.string s)).run Try.prog w = .ok (.slice (some ⟨w.heap.size, 0, none⟩) s.size cap) W0 ∧ Below w.heap.size w W0 ∧
    ∀ j (hj : j < s.size), W0.cell? ⟨w.heap.size, j, none⟩ = some (.int .u8 ((s[j]'hj).toNat : Int)) := by
  refine ⟨Lib.bytesWorld w 5 s, _, Lib.run_convert_string_bytes w 9 31 5 s Try.underlying9 Try.underlying31 Try.underlying5, ⟨rfl, rfl, rfl, by rw [Lib.bytesWorld_size]; omega, fun k hk => Lib.bytesWorld_at_old w 5 s k hk⟩, fun j hj => ?_⟩
  have h0 := Lib.bytesWorld_at_new w 5 s
  have h1 : j < (s.data.map fun b => Value.int .u8 (b.toNat : Int)).size := by simpa using hj
  have h2 : (Lib.bytesCells w 5 s)[j]? = some (.int .u8 ((s[j]'hj).toNat : Int)) := by
    unfold Lib.bytesCells
    rw [Array.getElem?_append_left h1, Array.getElem?_map]
    have : s.data[j]? = some (s[j]'hj) := by rw [Array.getElem?_eq_getElem (by simpa using hj)]; rfl
    rw [this]; rfl
  rw [Joins.cell_of_block h0, h2]
def vv (d0 d1 d2 d3 : Nat) : Nat → Nat
  | 0 => 0
  | 1 => d0
  | 2 => 16 * d0 + d1
  | 3 => 16 * (16 * d0 + d1) + d2
  | _ => 16 * (16 * (16 * d0 + d1) + d2) + d3
theorem piece_at {Q : ByteArray} {k j v : Nat} (h : (nums Q)[k + j]? = some v) (hj : j < (Q.extract k (k + 4)).size) : ((Q.extract k (k + 4))[j]'hj).toNat = v := by
  have h1 := nums_at (Q.extract k (k + 4)) j hj
  have hs : j < 4 := by simp at hj; omega
  rw [extract_nums, List.getElem?_take, if_pos (by omega), List.getElem?_drop, h] at h1
  exact (Option.some.inj h1).symm
set_option maxRecDepth 100000 in
set_option maxHeartbeats 4000000 in
theorem four_any (B k d0 d1 d2 d3 : Nat) (Q : ByteArray) (w : World) (hq : w.cell? ⟨B, 0, none⟩ = some (.string Q)) (hk : k + 4 ≤ Q.size) (hsz : Q.size ≤ 100000) (h0 : d0 < 16) (h1 : d1 < 16) (h2 : d2 < 16) (h3 : d3 < 16)
    (e0 : (nums Q)[k]? = some (hx d0)) (e1 : (nums Q)[k + 1]? = some (hx d1)) (e2 : (nums Q)[k + 2]? = some (hx d2)) (e3 : (nums Q)[k + 3]? = some (hx d3)) :
    Calls Try.prog 8 #[.int .i64 (k : Int), .pointer (some ⟨B, 0, none⟩)] w fun e w' => e = .returned (.tuple #[.int .i32 ((vv d0 d1 d2 d3 4 : Nat) : Int), .bool true]) ∧ Below w.heap.size w w' := by
  obtain ⟨W0, cap, hcv, hb0, hC⟩ := made_bytes (Q.extract k (k + 4)) w
  have hs4 : (Q.extract k (k + 4)).size = 4 := by simp; omega
  have hc0 := hC 0 (by omega)
  have hc1 := hC 1 (by omega)
  have hc2 := hC 2 (by omega)
  have hc3 := hC 3 (by omega)
  rw [piece_at (j := 0) e0] at hc0
  rw [piece_at (j := 1) e1] at hc1
  rw [piece_at (j := 2) e2] at hc2
  rw [piece_at (j := 3) e3] at hc3
  rw [hs4] at hcv
  have HB0 := Lib.hid hb0
  clear hC hs4 e0 e1 e2 e3 hb0
  have hk0 : (0 : Int) ≤ (k : Int) := Int.natCast_nonneg _
  have t0 : decide ((Q.size : Int) < (k : Int) + 4) = false := by simp; omega
  have hdg := fun d hd => hex_any d hd W0
  have HD := Lib.hid hdg
  have HQ := Lib.hid hq
  clear hdg
  go_enter Try.func8, Try.ntmps8
  go_wp2_with fail
  clear hcv
  go_loop [5, 21] (fun nv iv => ∃ i : Nat, i ≤ 4 ∧ iv = .int .i64 i ∧ nv = .int .i32 ((vv d0 d1 d2 d3 i : Nat) : Int)) (fun _ iv => 4 - (intOf iv).toNat)
  case atStart => exact ⟨0, Nat.zero_le _, rfl, rfl⟩
  case round =>
    obtain ⟨i, hi, rfl, rfl⟩ := hrel
    rcases (show i = 0 ∨ i = 1 ∨ i = 2 ∨ i = 3 ∨ i = 4 by omega) with rfl | rfl | rfl | rfl | rfl
    · rw [show ((vv d0 d1 d2 d3 0 : Nat) : Int) = 0 from rfl]
      go_wp2_with (go_at_call 9; refine (HD.out d0 h0).mono ?_; rintro e w' ⟨rfl, rfl⟩)
      go_round
      case rel => exact ⟨1, by omega, by go_num, by simp [vv]⟩
      case measure => simp [intOf]
    · simp only [vv]
      go_wp2_with (go_at_call 9; refine (HD.out d1 h1).mono ?_; rintro e w' ⟨rfl, rfl⟩)
      go_round
      case rel => exact ⟨2, by omega, by go_num, by simp [vv]⟩
      case measure => simp [intOf]
    · simp only [vv]
      go_wp2_with (go_at_call 9; refine (HD.out d2 h2).mono ?_; rintro e w' ⟨rfl, rfl⟩)
      go_round
      case rel => exact ⟨3, by omega, by go_num, by simp [vv]⟩
      case measure => simp [intOf]
    · simp only [vv]
      go_wp2_with (go_at_call 9; refine (HD.out d3 h3).mono ?_; rintro e w' ⟨rfl, rfl⟩)
      go_round
      case rel => exact ⟨4, by omega, by go_num, by simp [vv]⟩
      case measure => simp [intOf]
    · go_wp2_with fail
      go_ret2
      exact ⟨rfl, HB0.out⟩
end Go.Proofs.Ytmgjioffppphbaa
