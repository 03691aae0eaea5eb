/- What laws.zzFits3 tells of a slice of texts. -/
import Derived.Test.YtfpfpdjnmfiffaaRows
import Derived.WalkKit
import Derived.WalkSpells
import Derived.WalkLawsBesides
import Derived.LoopTactic
import Derived.Lib.Hide
namespace Go.Proofs.Ytfpfpdjnmfiffaa
open Go.RowKit
set_option linter.unusedVariables false

/-- The slice value '.slice a n cap' holds the texts ss. -/
def Strs (w : World) (a : Option Addr) (n : Nat) (ss : List ByteArray) : Prop :=
  ss.length = n ∧ (ss = [] ∨ ∃ b off, a = some ⟨b, off, none⟩ ∧ b < w.heap.size ∧ ∀ i (h : i < ss.length), w.cell? ⟨b, off + i, none⟩ = some (.string (ss[i]'h)))

theorem Strs.keep {w w' : World} {a : Option Addr} {n : Nat} {ss : List ByteArray} (h : Strs w a n ss) (hb : Below w.heap.size w w') : Strs w' a n ss := by
  refine ⟨h.1, ?_⟩
  rcases h.2 with h | ⟨b, off, rfl, hlt, hc⟩
  · exact .inl h
  · exact .inr ⟨b, off, rfl, Nat.lt_of_lt_of_le hlt hb.size, fun i hi => (hb.cell (p := ⟨b, off + i, none⟩) hlt).trans (hc i hi)⟩

theorem strs_of {w : World} {x : Addr} {n : Nat} {zs : List ByteArray} (hl : n ≤ zs.length) (hc : ∀ i, i < zs.length → w.cell? (x.add i) = some (.string (zs.getD i ByteArray.empty))) : Strs w (some x) n (zs.take n) := by
  refine ⟨by simp; omega, ?_⟩
  by_cases h0 : n = 0
  · left; subst h0; simp
  · right
    obtain ⟨b, off, spot⟩ := x
    have h1 := hc 0 (by omega)
    have hspot : spot = none := by simpa [Addr.add] using World.cell?_spot h1
    subst hspot
    refine ⟨b, off, rfl, World.block_lt_of_cell? w _ (by simpa [Addr.add] using h1), fun i hi => ?_⟩
    have hi' : i < zs.length := by simp at hi; omega
    have h2 := hc i hi'
    have e : (⟨b, off, none⟩ : Addr).add i = ⟨b, off + i, none⟩ := by unfold Addr.add; split <;> simp_all
    rw [e] at h2
    rw [h2]
    simp [List.getD, List.getElem?_eq_getElem hi']
def fitsB (ss : List ByteArray) : Bool := decide (ss.length ≤ 2147483647) && ss.all (fun s => decide (s.size ≤ 2147483647))
theorem fitsB_yes {ss : List ByteArray} (h0 : ss.length ≤ 2147483647) (h : ∀ i (hi : i < ss.length), (ss[i]'hi).size ≤ 2147483647) : fitsB ss = true := by
  simp only [fitsB, Bool.and_eq_true, decide_eq_true_eq, List.all_eq_true]
  refine ⟨h0, fun s hs => ?_⟩
  obtain ⟨i, hi, rfl⟩ := List.mem_iff_getElem.1 hs
  exact h i hi
theorem fitsB_no {ss : List ByteArray} (i : Nat) (hi : i < ss.length) (h : 2147483647 < (ss[i]'hi).size) : fitsB ss = false := by
  rw [← Bool.not_eq_true]
  simp only [fitsB, Bool.and_eq_true, decide_eq_true_eq, List.all_eq_true]
  rintro ⟨_, h2⟩
  have := h2 _ (List.getElem_mem hi)
  omega
theorem fitsB_long {ss : List ByteArray} (h : 2147483647 < ss.length) : fitsB ss = false := by
  rw [← Bool.not_eq_true]
  simp only [fitsB, Bool.and_eq_true, decide_eq_true_eq]
  omega
theorem ret_bool {a b : Bool} (h : a = b) : Ending.returned (.bool a) = .returned (.bool b) := by rw [h]

set_option maxHeartbeats 400000 in
theorem fits_any (a : Option Addr) (n cap : Nat) (ss : List ByteArray) (w : World) (hn : n ≤ 9223372036854775807) (h : Strs w a n ss) :
    Calls Try.prog 9 #[.slice a n cap] w fun e w' => e = .returned (.bool (fitsB ss)) ∧ w = w' := by
  obtain ⟨hl, h⟩ := h
  by_cases hb : n ≤ 2147483647
  · rcases h with h | ⟨b, off, rfl, hlt, hc⟩
    · subst h
      simp only [List.length_nil] at hl
      subst hl
      go_enter Try.func9, Try.ntmps9
      go_wp2
      go_loop [10] (fun i => i = .int .i64 0) (fun _ => 0)
      case atStart => rfl
      case round =>
        subst hrel
        go_wp2
        go_ret
        exact ⟨rfl, rfl⟩
    · have HL := Lib.hid hl
      clear hl
      have HC := Lib.hid hc
      clear hc
      go_enter Try.func9, Try.ntmps9
      go_wp2
      go_loop [10] (fun i => ∃ k : Nat, k ≤ n ∧ i = .int .i64 k ∧ ∀ j (hj : j < ss.length), j < k → (ss[j]'hj).size ≤ 2147483647) (fun i => n - (intOf i).toNat)
      case atStart => exact ⟨0, Nat.zero_le _, rfl, fun _ _ h => absurd h (by omega)⟩
      case round =>
        obtain ⟨k, hk, rfl, hall⟩ := hrel
        have HA := Lib.hid hall
        clear hall
        by_cases hkn : k < n
        · have hks : k < ss.length := by rw [HL.out]; exact hkn
          obtain ⟨s, hs⟩ : ∃ s, s = ss[k] := ⟨_, rfl⟩
          have hcell : w.cell? ⟨b, off + k, none⟩ = some (.string s) := by rw [hs]; exact HC.out k hks
          have HS := Lib.hid hs
          clear hs
          go_wp2
          · rename_i hbig
            go_ret
            exact ⟨ret_bool (fitsB_no k hks (by rw [← HS.out]; omega)).symm, rfl⟩
          · go_round
            case rel =>
              refine ⟨k + 1, by omega, by go_num, fun j hj hjk => ?_⟩
              by_cases hjk' : j < k
              · exact HA.out j hj hjk'
              · obtain rfl : j = k := by omega
                rw [← HS.out]; omega
            case measure => simp [intOf]; omega
        · go_wp2
          go_ret
          exact ⟨ret_bool (fitsB_yes (by rw [HL.out]; exact hb) (fun i hi => HA.out i hi (by have := HL.out; omega))).symm, rfl⟩
  · have HF := Lib.hid (fitsB_long (ss := ss) (by omega))
    clear h hl
    go_enter Try.func9, Try.ntmps9
    go_wp2
    go_ret
    exact ⟨ret_bool HF.out.symm, rfl⟩
end Go.Proofs.Ytfpfpdjnmfiffaa
