/- What impl.Joiner tells: the texts one behind the other. -/
import Derived.Test.YtfpfpdjnmfiffaaJoinD
import Derived.Lib.ConvBytes
import Derived.Lib.SmallJoins
import Derived.Deep.RegionWith
namespace Go.Proofs.Ytfpfpdjnmfiffaa
open Go.RowKit
set_option linter.unusedVariables false
set_option linter.unusedSimpArgs false

theorem made_blk (s : ByteArray) (w : World) : ∃ (W0 : World) (cap : Nat), (convert 9 37 (.string s)).run Try.prog w = .ok (.slice (some ⟨w.heap.size, 0, none⟩) s.size cap) W0 ∧ Below w.heap.size w W0 ∧ ByteBlk W0 w.heap.size s := by
  refine ⟨Lib.bytesWorld w 5 s, _, Lib.run_convert_string_bytes w 9 37 5 s Try.underlying9 Try.underlying37 Try.underlying5, ⟨rfl, rfl, rfl, by rw [Lib.bytesWorld_size]; omega, fun k hk => Lib.bytesWorld_at_old w 5 s k hk⟩, Lib.bytesCells w 5 s, _, Lib.bytesWorld_at_new w 5 s, fun j hj => ?_⟩
  have h1 : j < (s.data.map fun b => Value.int .u8 (b.toNat : Int)).size := by simpa using hj
  unfold Lib.bytesCells
  rw [Array.getElem?_append_left h1, Array.getElem?_map]
  have : s.data[j]? = some (s[j]'hj) := by rw [Array.getElem?_eq_getElem (by simpa using hj)]; rfl
  rw [this]; rfl
theorem J.below {B : Nat} {S : List (ByteArray × Nat)} {Bs : List Piece} {len : Nat} {last : Int} {w w' : World} (h : J B S Bs len last w) (hb : Below w.heap.size w w') : J B S Bs len last w' := by
  obtain ⟨vs, vb, hJ, hS, hB, hP⟩ := h
  have old : ∀ {k : Nat} {o : Obj}, w.heap[k]? = some o → w'.heap[k]? = some o := fun {k o} hk => by rw [hb.block k (Array.getElem?_eq_some_iff.1 hk).1]; exact hk
  have own : ∀ {E n : Nat} {v : Value} {cs : List Value}, w.ownsRow (B + 1) E 2 v n cs → w'.ownsRow (B + 1) E 2 v n cs := fun {E n v cs} h => ⟨h.1, h.2.imp id (fun ⟨g, cap, cur, h1, h2, h3, h4⟩ => ⟨g, cap, cur, h1, h2, old h3, h4⟩)⟩
  exact ⟨vs, vb, old hJ, own hS, own hB, fun x hx => ⟨(hP x hx).1, by obtain ⟨C, fr, h1, h2⟩ := (hP x hx).2; exact ⟨C, fr, old h1, h2⟩⟩⟩
structure Holds (want : List UInt8) (S : List (ByteArray × Nat)) (Bs : List Piece) : Prop where
  inS : ∀ x ∈ S, InAt want x.1 x.2
  inB : ∀ x ∈ Bs, InAt want x.s x.off
  cover : ∀ j, j < want.length → covS S S.length j ∨ covB Bs Bs.length j
theorem InAt.more {want l : List UInt8} {s : ByteArray} {off : Nat} (h : InAt want s off) : InAt (want ++ l) s off :=
  ⟨by rw [List.length_append]; have := h.1; omega, fun m hm => by rw [List.getElem?_append_left (by have := h.1; omega)]; exact h.2 m hm⟩
theorem InAt.new (want : List UInt8) (s : ByteArray) : InAt (want ++ s.data.toList) s want.length :=
  ⟨by simp, fun m hm => by rw [List.getElem?_append_right (by omega)]; congr 1; omega⟩
theorem covS_more {S : List (ByteArray × Nat)} {y : ByteArray × Nat} {j : Nat} (h : covS S S.length j) : covS (S ++ [y]) (S ++ [y]).length j := by
  obtain ⟨i, hi, hil, h1⟩ := h
  exact ⟨i, by simp; omega, by simp; omega, by rw [List.getElem_append_left hil]; exact h1⟩
theorem covB_more {S : List Piece} {y : Piece} {j : Nat} (h : covB S S.length j) : covB (S ++ [y]) (S ++ [y]).length j := by
  obtain ⟨i, hi, hil, h1⟩ := h
  exact ⟨i, by simp; omega, by simp; omega, by rw [List.getElem_append_left hil]; exact h1⟩
theorem Holds.addS {want : List UInt8} {S : List (ByteArray × Nat)} {Bs : List Piece} (h : Holds want S Bs) (s : ByteArray) : Holds (want ++ s.data.toList) (S ++ [(s, want.length)]) Bs := by
  refine ⟨fun x hx => ?_, fun x hx => (h.inB x hx).more, fun j hj => ?_⟩
  · rcases List.mem_append.1 hx with hx | hx
    · exact (h.inS x hx).more
    · simp at hx; subst hx; exact InAt.new _ _
  · by_cases h1 : j < want.length
    · exact (h.cover j h1).imp covS_more id
    · left
      refine ⟨S.length, by simp, by simp, ?_⟩
      simp at hj ⊢
      omega
theorem Holds.addB {want : List UInt8} {S : List (ByteArray × Nat)} {Bs : List Piece} (h : Holds want S Bs) (s : ByteArray) (g c : Nat) : Holds (want ++ s.data.toList) S (Bs ++ [⟨g, s, c, want.length⟩]) := by
  refine ⟨fun x hx => (h.inS x hx).more, fun x hx => ?_, fun j hj => ?_⟩
  · rcases List.mem_append.1 hx with hx | hx
    · exact (h.inB x hx).more
    · simp at hx; subst hx; exact InAt.new _ _
  · by_cases h1 : j < want.length
    · exact (h.cover j h1).imp id covB_more
    · right
      refine ⟨Bs.length, by simp, by simp, ?_⟩
      simp at hj ⊢
      omega
theorem lastOf_append (a b : List UInt8) (x : Int) : lastOf (a ++ b) x = lastOf b (lastOf a x) := by
  unfold lastOf
  rw [List.getLast?_append]
  cases hb : b.getLast? with
  | none => simp
  | some y => simp
def cat (ss : List ByteArray) : List UInt8 := ss.flatMap fun s => s.data.toList
theorem cat_take (ss : List ByteArray) (k : Nat) (hk : k < ss.length) : cat (ss.take (k + 1)) = cat (ss.take k) ++ ss[k].data.toList := by
  rw [List.take_succ_eq_append_getElem hk]
  unfold cat
  rw [List.flatMap_append]
  simp
theorem cat_len (ss : List ByteArray) (h : ∀ s ∈ ss, s.size ≤ 200) (k : Nat) (hk : k ≤ ss.length) : (cat (ss.take k)).length ≤ 200 * k := by
  induction k with
  | zero => simp [cat]
  | succ k ih =>
    have ih' := ih (by omega)
    have h1 := h ss[k] (List.getElem_mem _)
    rw [cat_take ss k (by omega), List.length_append]
    have : ss[k].data.toList.length = ss[k].size := by simp
    omega
/-- The texts' join, with a newline where it is asked for. -/
def joined (ss : List ByteArray) (newline : Bool) : List UInt8 := if newline = true ∧ 0 < (cat ss).length ∧ lastOf (cat ss) 0 ≠ 10 then cat ss ++ [10] else cat ss
end Go.Proofs.Ytfpfpdjnmfiffaa
