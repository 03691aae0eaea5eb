/- A row of bytes in its block; base 64's signs out of the bytes. -/
import Derived.Test.YtmfbnmjmgpafmaaDoorEncA
import Derived.Laws.BitsAllLaws
import Derived.Deep.MidRow
namespace Go.Proofs.YtmfbnmjmgpafmaaDoor
open Go.RowKit
set_option linter.unusedVariables false
set_option linter.unusedSimpArgs false
/-- The block's first cells are these bytes. -/
def Buf (D : Nat) (l : List Nat) (W : World) : Prop := ∃ cs : Array Value, W.heap[D]? = some (.cells cs 5 (0, 0)) ∧ ∀ j, j < l.length → cs[j]? = some (.int .u8 ((l.getD j 0 : Nat) : Int))
theorem Buf.cell {D : Nat} {l : List Nat} {W : World} (h : Buf D l W) {j : Nat} (hj : j < l.length) : W.cell? ⟨D, j, none⟩ = some (.int .u8 ((l.getD j 0 : Nat) : Int)) := by
  obtain ⟨cs, hc, he⟩ := h
  rw [World.cell?, hc]
  exact he j hj
theorem Buf.free {D : Nat} {l : List Nat} {W : World} (h : Buf D l W) (j : Nat) : W.frozen? ⟨D, j, none⟩ = false := by
  obtain ⟨cs, hc, he⟩ := h
  rw [World.frozen?, hc]
  simp
theorem Buf.lt {D : Nat} {l : List Nat} {W : World} (h : Buf D l W) : D < W.heap.size := by
  obtain ⟨cs, hc, he⟩ := h
  exact (Array.getElem?_eq_some_iff.1 hc).1
theorem Buf.put {D : Nat} {l : List Nat} {W : World} (h : Buf D l W) {j : Nat} (b : Nat) : Buf D (l.set j b) (W.setCell ⟨D, j, none⟩ (.int .u8 (b : Int))) := by
  obtain ⟨cs, hc, he⟩ := h
  refine ⟨_, heap_setCell_same W D j cs 5 _ hc, fun i hi => ?_⟩
  rw [List.length_set] at hi
  rw [Array.getElem?_setIfInBounds]
  by_cases h1 : j = i
  · subst h1
    have := he j hi
    rw [Array.getElem?_eq_some_iff] at this
    rw [if_pos rfl, if_pos this.1]
    simp [List.getD, hi]
  · rw [if_neg h1, he i hi]
    simp [List.getD, List.getElem?_set, h1]
theorem Buf.other {D : Nat} {l : List Nat} {W : World} (h : Buf D l W) {a : Addr} (ha : D ≠ a.block) (v : Value) : Buf D l (W.setCell a v) := by
  obtain ⟨cs, hc, he⟩ := h
  exact ⟨cs, by rw [Below.heap_setCell _ _ _ _ ha]; exact hc, he⟩
theorem Buf.drew {D : Nat} {l : List Nat} {W : World} (h : Buf D l W) : Buf D l W.drew := h
theorem Buf.below {D C : Nat} {l : List Nat} {W W' : World} (h : Buf D l W) (hb : Below C W W') (hD : D < C) : Buf D l W' := by
  obtain ⟨cs, hc, he⟩ := h
  exact ⟨cs, by rw [hb.block D hD]; exact hc, he⟩
theorem Buf.alloc {D : Nat} {l : List Nat} {W : World} (h : Buf D l W) (o : Obj) : Buf D l (W.alloc o) := h.below ((Below.refl W.heap.size W).alloc (Nat.le_refl _) o) h.lt
theorem EncAt.other {B : Nat} {w : World} (h : EncAt B w) {a : Addr} (ha : B ≠ a.block) (v : Value) : EncAt B (w.setCell a v) := by
  have e : ∀ j, (w.setCell a v).cell? ⟨B, j, none⟩ = w.cell? ⟨B, j, none⟩ := fun j => World.cell?_setCell_other _ _ _ _ (by rintro rfl; exact ha rfl)
  exact ⟨fun d hd => (e _).trans (h.enc d hd), fun c hc => (e _).trans (h.dec c hc), (e _).trans h.pad, (e _).trans h.strict, by rw [World.size_setCell]; exact h.lt⟩
theorem EncAt.drew {B : Nat} {w : World} (h : EncAt B w) : EncAt B w.drew := ⟨h.enc, h.dec, h.pad, h.strict, h.lt⟩
theorem EncAt.alloc {B : Nat} {w : World} (h : EncAt B w) (o : Obj) : EncAt B (w.alloc o) := h.below h.lt ((Below.refl w.heap.size w).alloc (Nat.le_refl _) o)
/-- These bytes lie in the block's first cells. -/
def Cel (g : Nat) (l : List Nat) (W : World) : Prop := g < W.heap.size ∧ ∀ j, j < l.length → W.cell? ⟨g, j, none⟩ = some (.int .u8 ((l.getD j 0 : Nat) : Int))
theorem Cel.cell {D : Nat} {l : List Nat} {W : World} (h : Cel D l W) {j : Nat} (hj : j < l.length) : W.cell? ⟨D, j, none⟩ = some (.int .u8 ((l.getD j 0 : Nat) : Int)) := h.2 j hj
theorem Cel.lt {D : Nat} {l : List Nat} {W : World} (h : Cel D l W) : D < W.heap.size := h.1
theorem Cel.other {D : Nat} {l : List Nat} {W : World} (h : Cel D l W) {a : Addr} (ha : D ≠ a.block) (v : Value) : Cel D l (W.setCell a v) :=
  ⟨by rw [World.size_setCell]; exact h.1, fun j hj => (World.cell?_setCell_other _ _ _ _ (by rintro rfl; exact ha rfl)).trans (h.2 j hj)⟩
theorem Cel.below {D C : Nat} {l : List Nat} {W W' : World} (h : Cel D l W) (hb : Below C W W') (hD : D < C) : Cel D l W' :=
  ⟨Nat.lt_of_lt_of_le h.1 hb.size, fun j hj => (hb.cell hD).trans (h.2 j hj)⟩
theorem Cel.alloc {D : Nat} {l : List Nat} {W : World} (h : Cel D l W) (o : Obj) : Cel D l (W.alloc o) := h.below ((Below.refl W.heap.size W).alloc (Nat.le_refl _) o) h.lt
theorem Buf.cel {D : Nat} {l : List Nat} {W : World} (h : Buf D l W) : Cel D l W := ⟨h.lt, fun j hj => h.cell hj⟩
end Go.Proofs.YtmfbnmjmgpafmaaDoor
