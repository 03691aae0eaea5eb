/- laws.zzFits7 and zzFits6: a list of steps fits, or does not. -/
import Derived.Test.YtonndmljendcoaaDoorHashR
namespace Go.Proofs.YtonndmljendcoaaDoor
open Go.RowKit
set_option linter.unusedVariables false
set_option linter.unusedSimpArgs false
set_option maxRecDepth 100000 in
set_option maxHeartbeats 4000000 in
theorem fits7_any (kd : Int) (a : Option Addr) (n c : Nat) (w : World) : Calls Tryd.prog 14 #[.agg #[.int .i64 kd, .slice a n c]] w fun e w' => (∃ b, e = .returned (.bool b)) ∧ Below w.heap.size w w' := by
  go_enter Tryd.func14, Tryd.ntmps14
  go_wp2
  all_goals
    go_ret
    exact ⟨⟨_, rfl⟩, (Below.refl _ w).alloc (Nat.le_refl _) _⟩
/-- Steps: of each its kind, and its bytes' slice. -/
def StepsAt (w : World) (b off : Nat) (xs : List (Int × Option Addr × Nat × Nat)) : Prop :=
  ∀ j x, xs[j]? = some x → w.cell? ⟨b, off + j * 2, none⟩ = some (.int .i64 x.1) ∧ w.cell? ⟨b, off + j * 2 + 1, none⟩ = some (.slice x.2.1 x.2.2.1 x.2.2.2)
theorem StepsAt.below {w w' : World} {b off B : Nat} {xs : List (Int × Option Addr × Nat × Nat)} (h : StepsAt w b off xs) (hb : Below B w w') (hB : b < B) : StepsAt w' b off xs :=
  fun j x hx => ⟨(hb.cell hB).trans (h j x hx).1, (hb.cell hB).trans (h j x hx).2⟩
set_option maxRecDepth 100000 in
set_option maxHeartbeats 4000000 in
theorem fits6_any (b off n c : Nat) (xs : List (Int × Option Addr × Nat × Nat)) (w : World) (hn : xs.length = n) (hb : b < w.heap.size) (hx : StepsAt w b off xs) :
    Calls Tryd.prog 7 #[.slice (some ⟨b, off, none⟩) n c] w fun e w' => (∃ bb, e = .returned (.bool bb)) ∧ Below w.heap.size w w' := by
  by_cases h1 : 2147483647 < n
  · have t1 : decide ((2147483647 : Int) < (n : Int)) = true := by simp; omega
    go_enter Tryd.func7, Tryd.ntmps7
    go_wp2_with fail
    go_ret
    exact ⟨⟨_, rfl⟩, Below.refl _ w⟩
  · have t1 : decide ((2147483647 : Int) < (n : Int)) = false := by simp; omega
    have HX := Lib.hid hx
    have HN := Lib.hid hn
    clear hx hn
    have C := Lib.hid fits7_any
    go_enter Tryd.func7, Tryd.ntmps7
    go_wp2_with fail
    go_loopw [10] (fun ti wr => ∃ k : Nat, k ≤ n ∧ ti = .int .i64 k ∧ Below w.heap.size w wr ∧ w.heap.size ≤ wr.heap.size) (fun ti _ => n - (intOf ti).toNat)
    case atStart => exact ⟨0, Nat.zero_le _, rfl, Below.refl _ w, Nat.le_refl _⟩
    case round =>
      obtain ⟨k, hk, rfl, hbl, hsz⟩ := hrel
      by_cases hkn : k < n
      · obtain ⟨x, hx⟩ : ∃ x, xs[k]? = some x := ⟨_, List.getElem?_eq_getElem (by rw [HN.out]; exact hkn)⟩
        obtain ⟨hc0, hc1⟩ := (HX.out.below hbl hb) k x hx
        obtain ⟨kd, a, m, cc⟩ := x
        simp only at hc0 hc1
        have HBL := Lib.hid hbl
        clear hx hbl
        go_wp2_with (go_at_call 14; refine (C.out _ _ _ _ _).mono ?_; rintro e w1 ⟨⟨bb, rfl⟩, hb1⟩)
        all_goals
          have hb2 : Below w.heap.size w w1 := (HBL.out.alloc hsz _).trans (hb1.mono (by simp; omega))
          have HB2 := Lib.hid hb2
          have hs2 := hb2.size
          clear hb2 hb1
        · go_ret
          exact ⟨⟨_, rfl⟩, HB2.out⟩
        · go_roundw
          case rel => exact ⟨k + 1, by omega, by go_num, HB2.out, hs2⟩
          case measure => simp [intOf]; omega
      · go_wp2_with fail
        go_ret
        exact ⟨⟨_, rfl⟩, hbl⟩
end Go.Proofs.YtonndmljendcoaaDoor
