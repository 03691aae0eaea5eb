/- Contracts of what FnPackageName calls: laws.word, resolver.zzIndexAny at texts of ASCII. -/
import Derived.Test.YtfpfpdjnmfiffaaFits
import Derived.Lib.OthersKept
import Derived.LoopN
namespace Go.Proofs.Ytfpfpdjnmfiffaa
open Go.RowKit
set_option linter.unusedVariables false

def wordB (s : ByteArray) : Bool := s.data.toList.all (fun b => decide (97 ≤ b.toNat) && decide (b.toNat ≤ 122)) && (decide (1 ≤ s.size) && decide (s.size ≤ 20))
theorem all_bytes {s : ByteArray} {p : UInt8 → Bool} (h : ∀ i (hi : i < s.size), p (s[i]'hi) = true) : s.data.toList.all p = true := by
  rw [List.all_eq_true]
  intro x hx
  obtain ⟨i, hi, rfl⟩ := List.mem_iff_getElem.1 hx
  exact h i (by simpa using hi)
theorem all_bytes_at {s : ByteArray} {p : UInt8 → Bool} (h : s.data.toList.all p = true) (i : Nat) (hi : i < s.size) : p (s[i]'hi) = true := by
  rw [List.all_eq_true] at h
  exact h _ (by
    have : s[i]'hi = s.data.toList[i]'(by simpa using hi) := rfl
    rw [this]; exact List.getElem_mem _)
theorem wordB_yes {s : ByteArray} (h : ∀ i (hi : i < s.size), 97 ≤ (s[i]'hi).toNat ∧ (s[i]'hi).toNat ≤ 122) (h1 : 1 ≤ s.size) (h2 : s.size ≤ 20) : wordB s = true := by
  simp only [wordB, Bool.and_eq_true, decide_eq_true_eq]
  exact ⟨all_bytes fun i hi => by simpa using h i hi, h1, h2⟩
theorem wordB_byte {s : ByteArray} (i : Nat) (hi : i < s.size) (h : (s[i]'hi).toNat < 97 ∨ 122 < (s[i]'hi).toNat) : wordB s = false := by
  rw [← Bool.not_eq_true]
  simp only [wordB, Bool.and_eq_true, decide_eq_true_eq]
  rintro ⟨h3, _⟩
  have := all_bytes_at h3 i hi
  simp at this
  omega
theorem wordB_size {s : ByteArray} (h : s.size < 1 ∨ 20 < s.size) : wordB s = false := by
  rw [← Bool.not_eq_true]
  simp only [wordB, Bool.and_eq_true, decide_eq_true_eq]
  rintro ⟨_, h1, h2⟩
  omega
theorem wordB_out {s : ByteArray} (h : wordB s = true) : (∀ i (hi : i < s.size), 97 ≤ (s[i]'hi).toNat ∧ (s[i]'hi).toNat ≤ 122) ∧ 1 ≤ s.size ∧ s.size ≤ 20 := by
  simp only [wordB, Bool.and_eq_true, decide_eq_true_eq] at h
  obtain ⟨h3, h1, h2⟩ := h
  exact ⟨fun i hi => by simpa using all_bytes_at h3 i hi, h1, h2⟩

set_option maxHeartbeats 400000 in
theorem word_any (s : ByteArray) (w : World) (hs : s.size ≤ 9223372036854775807) :
    Calls Try.prog 12 #[.string s] w fun e w' => e = .returned (.bool (wordB s)) ∧ w = w' := by
  go_enter Try.func12, Try.ntmps12
  go_wp2
  go_loop [6] (fun i => ∃ k : Nat, k ≤ s.size ∧ i = .int .i64 k ∧ ∀ j (hj : j < s.size), j < k → 97 ≤ (s[j]'hj).toNat ∧ (s[j]'hj).toNat ≤ 122) (fun i => s.size - (intOf i).toNat)
  case atStart => exact ⟨0, Nat.zero_le _, rfl, fun _ _ h => absurd h (by omega)⟩
  case round =>
    obtain ⟨k, hk, rfl, hall⟩ := hrel
    have HA := Lib.hid hall
    clear hall
    by_cases hkn : k < s.size
    · by_cases hbyte : 97 ≤ (s[k]'hkn).toNat ∧ (s[k]'hkn).toNat ≤ 122
      · have h1 : decide (((s[k]'hkn).toNat : Int) < 97) = false := by simp; omega
        have h2 : decide ((122 : Int) < ((s[k]'hkn).toNat : Int)) = false := by simp; omega
        have HB := Lib.hid hbyte
        clear hbyte
        go_wp2
        go_round
        case rel =>
          refine ⟨k + 1, by omega, by go_num, fun j hj hjk => ?_⟩
          by_cases hjk' : j < k
          · exact HA.out j hj hjk'
          · obtain rfl : j = k := by omega
            exact HB.out
        case measure => simp [intOf]; omega
      · have HW := Lib.hid (wordB_byte k hkn (by omega))
        by_cases h1 : (s[k]'hkn).toNat < 97
        · have h1' : decide (((s[k]'hkn).toNat : Int) < 97) = true := by simp; omega
          clear hbyte
          go_wp2
          go_ret
          exact ⟨ret_bool HW.out.symm, rfl⟩
        · have h1' : decide (((s[k]'hkn).toNat : Int) < 97) = false := by simp; omega
          have h2 : decide ((122 : Int) < ((s[k]'hkn).toNat : Int)) = true := by simp; omega
          clear hbyte
          go_wp2
          go_ret
          exact ⟨ret_bool HW.out.symm, rfl⟩
    · by_cases h1 : 1 ≤ s.size
      · have h1' : decide ((1 : Int) ≤ (s.size : Int)) = true := by simp; omega
        by_cases h2 : s.size ≤ 20
        · have h2' : decide ((s.size : Int) ≤ 20) = true := by simp; omega
          have HW := Lib.hid (wordB_yes (s := s) (fun i hi => HA.out i hi (by omega)) h1 h2)
          go_wp2
          go_ret
          exact ⟨ret_bool HW.out.symm, rfl⟩
        · have h2' : decide ((s.size : Int) ≤ 20) = false := by simp; omega
          have HW := Lib.hid (wordB_size (s := s) (by omega))
          go_wp2
          go_ret
          exact ⟨ret_bool HW.out.symm, rfl⟩
      · have h1' : decide ((1 : Int) ≤ (s.size : Int)) = false := by simp; omega
        have HW := Lib.hid (wordB_size (s := s) (by omega))
        go_wp2
        go_ret
        exact ⟨ret_bool HW.out.symm, rfl⟩

/-- zzIndexAny finds neither sign in a text of ASCII that has none. -/
def chars : ByteArray := ⟨#[92, 37]⟩
set_option maxHeartbeats 400000 in
theorem indexAny_none (s : ByteArray) (w : World) (hs : s.size ≤ 9223372036854775807) (hok : ∀ i (hi : i < s.size), (s[i]'hi).toNat < 128 ∧ (s[i]'hi).toNat ≠ 92 ∧ (s[i]'hi).toNat ≠ 37) :
    Calls Try.prog 46 #[.string s, .string ⟨#[92, 37]⟩] w fun e w' => e = .returned (.int .i64 (-1)) ∧ Below w.heap.size w w' := by
  have HO := Lib.hid hok
  clear hok
  go_enter Try.func46, Try.ntmps46
  go_wp2
  go_loopw [] (fun wr => ∃ pos : Nat, pos ≤ s.size ∧ wr.heap[w.heap.size]? = some (.stringIter s pos) ∧ Below w.heap.size w wr) (fun wr => s.size - wr.iterPos w.heap.size)
  case atStart => exact ⟨0, Nat.zero_le _, World.iter_heap w s 0, (Below.refl _ w).alloc (Nat.le_refl _) _⟩
  case round =>
    obtain ⟨pos, hp, hit, hb⟩ := hrel
    have hsz : w.heap.size < wr.heap.size := (Array.getElem?_eq_some_iff.1 hit).1
    by_cases hlt : pos < s.size
    · obtain ⟨o1, o2, o3⟩ := HO.out pos hlt
      obtain ⟨r, hr⟩ : ∃ r, r = (s[pos]'hlt).toNat := ⟨_, rfl⟩
      rw [← hr] at o1 o2 o3
      have hnx : ∀ ty, (Instr.next (.pointer (some ⟨w.heap.size, 0, none⟩)) true ty).run Try.prog wr = .ok (.tuple #[.bool true, .int .i64 pos, .int .i32 r]) (wr.iterAt w.heap.size s (pos + 1)) := fun ty => by
        rw [hr]; exact Lib.run_next_ascii_at wr w.heap.size s pos ty hit hlt (by omega)
      have hit2 := Lib.iterAt_heap wr w.heap.size s pos (pos + 1) hit
      have hb2 := Lib.below_iterAt hb (k := w.heap.size) (Nat.le_refl _) s (pos + 1)
      have hs2 : w.heap.size < (wr.iterAt w.heap.size s (pos + 1)).heap.size := by rw [Lib.iterAt_size]; exact hsz
      have t1 : ((r : Int) == 92) = false := by simp; omega
      have t2 : ((r : Int) == 37) = false := by simp; omega
      clear hr o1 o2 o3 hb hsz
      go_wp2_with fail
      generalize (wr.iterAt w.heap.size s (pos + 1)) = W at *
      have n0 : ∀ ty, (Instr.next (.pointer (some ⟨W.heap.size, 0, none⟩)) true ty).run Try.prog (W.iter ⟨#[92, 37]⟩ 0) = .ok (.tuple #[.bool true, .int .i64 (0 : Nat), .int .i32 92]) (W.iter ⟨#[92, 37]⟩ 1) := fun ty => run_next_ascii W ⟨#[92, 37]⟩ 0 ty (by decide) (by decide)
      have n1 : ∀ ty, (Instr.next (.pointer (some ⟨W.heap.size, 0, none⟩)) true ty).run Try.prog (W.iter ⟨#[92, 37]⟩ 1) = .ok (.tuple #[.bool true, .int .i64 (1 : Nat), .int .i32 37]) (W.iter ⟨#[92, 37]⟩ 2) := fun ty => run_next_ascii W ⟨#[92, 37]⟩ 1 ty (by decide) (by decide)
      have n2 : ∀ ty, (Instr.next (.pointer (some ⟨W.heap.size, 0, none⟩)) true ty).run Try.prog (W.iter ⟨#[92, 37]⟩ 2) = .ok (.tuple #[.bool false]) (W.iter ⟨#[92, 37]⟩ 2) := fun ty => run_next_end W ⟨#[92, 37]⟩ 2 ty (by decide)
      refine wp_loop_rounds 3 ?_
      rw [rounds_succ]
      go_wp2
      rw [rounds_succ]
      go_wp2
      rw [rounds_succ]
      go_wp2
      have hit3 : (W.iter ⟨#[92, 37]⟩ 2).heap[w.heap.size]? = some (.stringIter s (pos + 1)) := (Below.heap_alloc W _ _ hs2).trans hit2
      go_roundw
      case rel => exact ⟨pos + 1, by omega, hit3, hb2.alloc (by omega) _⟩
      case measure =>
        simp only [World.iterPos, hit3, hit]
        omega
    · have hnx : ∀ ty, (Instr.next (.pointer (some ⟨w.heap.size, 0, none⟩)) true ty).run Try.prog wr = _ := fun ty => Lib.run_next_end_at wr w.heap.size s pos ty hit hlt
      go_wp2
      go_ret
      exact ⟨rfl, hb⟩
end Go.Proofs.Ytfpfpdjnmfiffaa
