/- Blocks that are known whole; the four words of a hash in a block; bytes of a slice. -/
import Derived.Test.YtonndmljendcoaaDoorHashC
import Derived.Deep.RegionLaw
import Derived.Deep.RegionWith
import Derived.Deep.DeepCutAuto
import Derived.Deep.DrawnRows
namespace Go.Proofs.YtonndmljendcoaaDoor
open Go.RowKit
set_option linter.unusedVariables false
set_option linter.unusedSimpArgs false
def Vec (w : World) (g : Nat) (t : TypeId) (xs : List Value) : Prop := w.heap[g]? = some (.cells xs.toArray t (0, 0))
theorem Vec.cell {w : World} {g : Nat} {t : TypeId} {xs : List Value} (h : Vec w g t xs) {j : Nat} {v : Value} (hj : xs[j]? = some v) : w.cell? ⟨g, j, none⟩ = some v := by
  unfold Vec at h
  simp [World.cell?, h, hj]
theorem Vec.free {w : World} {g : Nat} {t : TypeId} {xs : List Value} (h : Vec w g t xs) (j : Nat) : w.frozen? ⟨g, j, none⟩ = false := by
  unfold Vec at h
  simp [World.frozen?, h]
theorem Vec.lt {w : World} {g : Nat} {t : TypeId} {xs : List Value} (h : Vec w g t xs) : g < w.heap.size := lt_of_block h
theorem Vec.set {w : World} {g : Nat} {t : TypeId} {xs : List Value} (h : Vec w g t xs) (j : Nat) (v : Value) : Vec (w.setCell ⟨g, j, none⟩ v) g t (xs.set j v) := by
  have hlt := h.lt
  have h' : w.heap[g] = .cells xs.toArray t (0, 0) := by have := h; unfold Vec at this; simpa [Array.getElem?_eq_getElem hlt] using this
  show (w.heap.modify g _)[g]? = _
  rw [Array.getElem?_eq_getElem (by simpa using hlt), Array.getElem_modify_self, h']
  simp
theorem heap_at_new (w : World) (o : Obj) (k : Nat) (h : k = w.heap.size) : (w.alloc o).heap[k]? = some o := by subst h; exact heap_alloc_new w o
/-- A word of the four. -/
def V4.at (v : V4) : Nat → UInt64
  | 0 => v.a
  | 1 => v.b
  | 2 => v.c
  | _ => v.d
/-- The four words, i of them one step on. -/
def part (v : V4) (r : List UInt8) (i : Nat) : List UInt64 := (List.range 4).map fun j => if j < i then (stepV v r).at j else v.at j
def words (l : List UInt64) : List Value := l.map fun x => .int .u64 (x.toNat : Int)
theorem step_at (v : V4) (r : List UInt8) (j : Nat) (h : j < 4) : (stepV v r).at j = rnd (v.at j) (le8 (r.drop (8 * j))) := by
  match j, h with
  | 0, _ => rfl
  | 1, _ => rfl
  | 2, _ => rfl
  | 3, _ => rfl
theorem part_at (v : V4) (r : List UInt8) (i : Nat) (h : i < 4) : (words (part v r i))[i]? = some (.int .u64 ((v.at i).toNat : Int)) := by
  simp [words, part, h]
theorem part_set (v : V4) (r : List UInt8) (i : Nat) (h : i < 4) : (words (part v r i)).set i (.int .u64 (((stepV v r).at i).toNat : Int)) = words (part v r (i + 1)) := by
  match i, h with
  | 0, _ => rfl
  | 1, _ => rfl
  | 2, _ => rfl
  | 3, _ => rfl
theorem part_zero (v : V4) (r : List UInt8) : words (part v r 0) = words [v.a, v.b, v.c, v.d] := rfl
theorem part_four (v : V4) (r : List UInt8) : words (part v r 4) = words [(stepV v r).a, (stepV v r).b, (stepV v r).c, (stepV v r).d] := rfl
theorem word_at (v : V4) (i : Nat) (h : i < 4) : (words [v.a, v.b, v.c, v.d])[i]? = some (.int .u64 ((v.at i).toNat : Int)) := by
  match i, h with
  | 0, _ => rfl
  | 1, _ => rfl
  | 2, _ => rfl
  | 3, _ => rfl
/-- The four words joined, i of them. -/
def joinUp (v : V4) : Nat → UInt64
  | 0 => aW (aW (aW (rotl v.a 1) (rotl v.b 7)) (rotl v.c 12)) (rotl v.d 18)
  | i + 1 => mrg (joinUp v i) (v.at i)
theorem joinUp_four (v : V4) : joinUp v 4 = joinV v := rfl
/-- The bytes of a slice. -/
def Bytes (w : World) (g o : Nat) (l : List UInt8) : Prop := ∀ j (h : j < l.length), w.cell? ⟨g, o + j, none⟩ = some (.int .u8 ((l[j]'h).toNat : Int))
theorem Bytes.drop {w : World} {g o : Nat} {l : List UInt8} (h : Bytes w g o l) (k p : Nat) (hp : p = o + k) : Bytes w g p (l.drop k) := by
  intro j hj
  have h1 : k + j < l.length := by simp at hj; omega
  rw [hp, Nat.add_assoc, h (k + j) h1]
  simp
theorem Bytes.below {w w' : World} {g o B : Nat} {l : List UInt8} (h : Bytes w g o l) (hb : Below B w w') (hg : g < B) : Bytes w' g o l := fun j hj => (hb.cell (p := ⟨g, o + j, none⟩) hg).trans (h j hj)
theorem below_drewN (w : World) (k : Nat) : Below w.heap.size w (w.drewN k) := ⟨rfl, rfl, rfl, Nat.le_refl _, fun _ _ => rfl⟩
theorem drewN_below {B : Nat} {w w' : World} (h : Below B w w') (k : Nat) : Below B w (w'.drewN k) := ⟨h.os, h.tape, h.output, h.size, h.block⟩
end Go.Proofs.YtonndmljendcoaaDoor
