/- The hash of no bytes. -/
import Derived.Test.YtonndmljendcoaaDoorHashG
namespace Go.Proofs.YtonndmljendcoaaDoor
open Go.RowKit
set_option linter.unusedVariables false
set_option linter.unusedSimpArgs false
theorem hash_nil : hash [] = fin (aW P5 (lW 0)) := by
  unfold hash
  rw [restV_end (by simp), eights_end (by simp), fours, if_neg (by simp), ones]
  rfl
set_option maxRecDepth 100000 in
set_option maxHeartbeats 4000000 in
theorem hash_zero (a : Option Addr) (c : Nat) (w : World) :
    Calls Tryd.prog 6 #[.slice a 0 c] w fun e w' => e = .returned (.int .u64 ((hash []).toNat : Int)) ∧ Below w.heap.size w w' := by
  go_enter Tryd.func6, Tryd.ntmps6
  go_wp2
  refine wp_loop_rounds 1 ?_
  rw [rounds_succ]
  go_wp2
  refine wp_loop_rounds 1 ?_
  rw [rounds_succ]
  go_wp2
  go_ret
  exact ⟨ret_u64 (by rw [hash_nil]; decide +kernel), Below.refl _ _⟩
set_option maxRecDepth 100000 in
set_option maxHeartbeats 4000000 in
theorem sum_zero (a : Option Addr) (c : Nat) (w : World) :
    Calls Tryd.prog 10 #[.slice a 0 c] w fun e w' => e = .returned (.int .u64 ((hash []).toNat : Int)) ∧ Below w.heap.size w w' := by
  go_enter Tryd.func10, Tryd.ntmps10
  go_wp2
  refine wp_loop_rounds 1 ?_
  rw [rounds_succ]
  go_wp2
  refine wp_loop_rounds 1 ?_
  rw [rounds_succ]
  go_wp2
  go_ret
  exact ⟨ret_u64 (by rw [hash_nil]; decide +kernel), Below.refl _ _⟩
/-- A slice of bytes as the laws have it. -/
def SlB (w : World) (a : Option Addr) (n c : Nat) (l : List UInt8) : Prop :=
  l.length = n ∧ n ≤ c ∧ (n = 0 ∨ ∃ b off, a = some ⟨b, off, none⟩ ∧ b < w.heap.size ∧ Bytes w b off l)
theorem hash_sl (a : Option Addr) (n c : Nat) (l : List UInt8) (w : World) (h : SlB w a n c l) (hn : n ≤ 100000) :
    Calls Tryd.prog 6 #[.slice a n c] w fun e w' => e = .returned (.int .u64 ((hash l).toNat : Int)) ∧ Below w.heap.size w w' := by
  obtain ⟨h1, h2, h3 | ⟨b, off, rfl, hb, hc⟩⟩ := h
  · subst h3
    obtain rfl := List.eq_nil_of_length_eq_zero h1
    exact hash_zero a c w
  · exact hash_any b off n c l w h1 hn h2 hb hc
theorem sum_sl (a : Option Addr) (n c : Nat) (l : List UInt8) (w : World) (h : SlB w a n c l) (hn : n ≤ 100000) (hp : w.cell? ⟨0, 0, none⟩ = some (.int .u64 11400714785074694791)) :
    Calls Tryd.prog 10 #[.slice a n c] w fun e w' => e = .returned (.int .u64 ((hash l).toNat : Int)) ∧ Below w.heap.size w w' := by
  obtain ⟨h1, h2, h3 | ⟨b, off, rfl, hb, hc⟩⟩ := h
  · subst h3
    obtain rfl := List.eq_nil_of_length_eq_zero h1
    exact sum_zero a c w
  · exact sum_any b off n c l w h1 hn h2 hb hc hp
theorem SlB.below {w w' : World} {a : Option Addr} {n c : Nat} {l : List UInt8} (h : SlB w a n c l) (hb : Below w.heap.size w w') : SlB w' a n c l :=
  ⟨h.1, h.2.1, h.2.2.imp id fun ⟨b, off, ha, hl, hc⟩ => ⟨b, off, ha, Nat.lt_of_lt_of_le hl hb.size, hc.below hb hl⟩⟩
end Go.Proofs.YtonndmljendcoaaDoor
