/- The state in which the function that impl.Bits hands to calm works. -/
import Derived.Test.YtibkicllbfheiaaBitsC
import Derived.Deep.AppendLies
namespace Go.Proofs.Ytibkicllbfheiaa
open Go.RowKit
set_option linter.unusedVariables false
set_option linter.unusedSimpArgs false

theorem keep_drew {w : World} {p : Addr} {v : Value} (h : w.cell? p = some v) : w.drew.cell? p = some v := h
theorem keep_alloc {w : World} {p : Addr} {v : Value} (h : w.cell? p = some v) (o : Obj) : (w.alloc o).cell? p = some v := (World.cell?_of_block (Below.heap_alloc w o p.block (World.block_lt_of_cell? w p h))).trans h
theorem keep_set {w : World} {p : Addr} {v : Value} (h : w.cell? p = some v) (q : Addr) (u : Value) (hne : p.block ≠ q.block) : (w.setCell q u).cell? p = some v := (World.cell?_of_block (Below.heap_setCell w q u p.block hne)).trans h
theorem at_old {w : World} {k : Nat} {o' : Obj} (h : w.heap[k]? = some o') (o : Obj) : (w.alloc o).heap[k]? = some o' := (Below.heap_alloc w o k (lt_of_block h)).trans h
theorem at_drew {w : World} {k : Nat} {o : Obj} (h : w.heap[k]? = some o) : w.drew.heap[k]? = some o := h
theorem grown_drew {w w' : World} {r : Option Nat} (h : w.grownBy w' r) : w.grownBy w'.drew r := ⟨h.os, h.tape, h.output, h.size, h.block⟩
theorem grown_one {w w' : World} {r : Option Nat} (h : w.grownBy w' r) (o : Obj) : w.grownBy (w'.alloc o) r := grown_trans h (World.grownBy_alloc _ _ _)
theorem grown_refl (w : World) (r : Option Nat) : w.grownBy w r := ⟨rfl, rfl, rfl, Nat.le_refl _, fun _ _ _ => rfl⟩
/-- A slice of numbers that lies below B. -/
def Ints (w : World) (B : Nat) (a : Option Addr) (n : Nat) (zs : List Int) : Prop :=
  zs.length = n ∧ (n = 0 ∨ ∃ b off, a = some ⟨b, off, none⟩ ∧ b < B ∧ ∀ i (h : i < zs.length), w.cell? ⟨b, off + i, none⟩ = some (.int .i64 (zs[i]'h)))
/-- The variables and the two sets. -/
structure St (B count m p5 p6 g5 g6 : Nat) (v1 v2 : Value) (w : World) (S T : List Int) (v : Value) (q : Bool) (wr : World) : Prop where
  bel : Below B w wr
  b0 : wr.heap[B]? = some (.cells #[.int .i64 (count : Int)] 3 (0, 0))
  b1 : wr.heap[B + 1]? = some (.cells #[v1] 29 (0, 0))
  b2 : wr.heap[B + 2]? = some (.cells #[v2] 29 (0, 0))
  b3 : wr.heap[B + 3]? = some (.cells #[v] 30 (0, 0))
  b4 : wr.heap[B + 4]? = some (.cells #[.bool q] 4 (0, 0))
  b5 : wr.heap[B + 5]? = some (.cells #[.bool false] 4 (0, 0))
  q5 : wr.heap[p5]? = some (.cells #[.slice (some ⟨g5, 0, none⟩) m m] 39 (0, 0))
  q6 : wr.heap[p6]? = some (.cells #[.slice (some ⟨g6, 0, none⟩) m m] 39 (0, 0))
  s5 : Vec wr g5 5 (byteCells (mbs m S))
  s6 : Vec wr g6 5 (byteCells (mbs m T))
  ne : g5 ≠ g6
  l5 : B + 5 < p5
  l6 : B + 5 < p6
  k5 : B + 5 < g5
  k6 : B + 5 < g6
section
variable {B count m p5 p6 g5 g6 : Nat} {v1 v2 : Value} {w : World} {S T : List Int} {v : Value} {q : Bool} {wr : World}
/-- A step that writes elsewhere. -/
theorem St.other (h : St B count m p5 p6 g5 g6 v1 v2 w S T v q wr) {w' : World} {row : Option Nat} (hg : wr.grownBy w' row) (hr : ∀ k, row = some k → wr.heap.size ≤ k) : St B count m p5 p6 g5 g6 v1 v2 w S T v q w' := by
  have old : ∀ {k : Nat} {o : Obj}, wr.heap[k]? = some o → w'.heap[k]? = some o := fun {k o} hk => by
    rw [hg.block k (lt_of_block hk) (fun e => by have := hr k e.symm; have := lt_of_block hk; omega)]; exact hk
  have hB := lt_of_block h.b0
  exact ⟨h.bel.grown hg (by omega) (fun k hk => by have := hr k hk; omega), old h.b0, old h.b1, old h.b2, old h.b3, old h.b4, old h.b5, old h.q5, old h.q6, old h.s5, old h.s6, h.ne, h.l5, h.l6, h.k5, h.k6⟩
/-- A step that writes to a row far off. -/
theorem St.far (h : St B count m p5 p6 g5 g6 v1 v2 w S T v q wr) {w' : World} {row : Option Nat} {H : Nat} (hg : wr.grownBy w' row) (hr : ∀ k, row = some k → H ≤ k) (h1 : p5 < H) (h2 : p6 < H) (h3 : g5 < H) (h4 : g6 < H) : St B count m p5 p6 g5 g6 v1 v2 w S T v q w' := by
  have old : ∀ {k : Nat} {o : Obj}, wr.heap[k]? = some o → k < H → w'.heap[k]? = some o := fun {k o} hk hl => by
    rw [hg.block k (lt_of_block hk) (fun e => by have := hr k e.symm; omega)]; exact hk
  have hB := lt_of_block h.b0
  have := h.l5
  exact ⟨h.bel.grown hg (by omega) (fun k hk => by have := hr k hk; omega), old h.b0 (by omega), old h.b1 (by omega), old h.b2 (by omega), old h.b3 (by omega), old h.b4 (by omega), old h.b5 (by omega), old h.q5 h1, old h.q6 h2, old h.s5 h3, old h.s6 h4, h.ne, h.l5, h.l6, h.k5, h.k6⟩
theorem St.setA (h : St B count m p5 p6 g5 g6 v1 v2 w S T v q wr) {w' : World} {S' : List Int} (hg : wr.grownBy w' (some g5)) (hV : Vec w' g5 5 (byteCells (mbs m S'))) : St B count m p5 p6 g5 g6 v1 v2 w S' T v q w' := by
  have old : ∀ {k : Nat} {o : Obj}, wr.heap[k]? = some o → k ≠ g5 → w'.heap[k]? = some o := fun {k o} hk hne => by
    rw [hg.block k (lt_of_block hk) (fun e => hne (Option.some.inj e))]; exact hk
  have hB := lt_of_block h.b0
  have h5 := h.k5
  have n5 : p5 ≠ g5 := fun e => by have a := h.q5; have b := h.s5; unfold Vec at b; rw [e, b] at a; simp at a
  have n6 : p6 ≠ g5 := fun e => by have a := h.q6; have b := h.s5; unfold Vec at b; rw [e, b] at a; simp at a
  exact ⟨h.bel.grown hg (by omega) (fun k hk => by have := Option.some.inj hk; omega), old h.b0 (by omega), old h.b1 (by omega), old h.b2 (by omega), old h.b3 (by omega), old h.b4 (by omega), old h.b5 (by omega), old h.q5 n5, old h.q6 n6, hV, old h.s6 (Ne.symm h.ne), h.ne, h.l5, h.l6, h.k5, h.k6⟩
theorem St.setB (h : St B count m p5 p6 g5 g6 v1 v2 w S T v q wr) {w' : World} {T' : List Int} (hg : wr.grownBy w' (some g6)) (hV : Vec w' g6 5 (byteCells (mbs m T'))) : St B count m p5 p6 g5 g6 v1 v2 w S T' v q w' := by
  have old : ∀ {k : Nat} {o : Obj}, wr.heap[k]? = some o → k ≠ g6 → w'.heap[k]? = some o := fun {k o} hk hne => by
    rw [hg.block k (lt_of_block hk) (fun e => hne (Option.some.inj e))]; exact hk
  have hB := lt_of_block h.b0
  have h6 := h.k6
  have n5 : p5 ≠ g6 := fun e => by have a := h.q5; have b := h.s6; unfold Vec at b; rw [e, b] at a; simp at a
  have n6 : p6 ≠ g6 := fun e => by have a := h.q6; have b := h.s6; unfold Vec at b; rw [e, b] at a; simp at a
  exact ⟨h.bel.grown hg (by omega) (fun k hk => by have := Option.some.inj hk; omega), old h.b0 (by omega), old h.b1 (by omega), old h.b2 (by omega), old h.b3 (by omega), old h.b4 (by omega), old h.b5 (by omega), old h.q5 n5, old h.q6 n6, old h.s5 h.ne, hV, h.ne, h.l5, h.l6, h.k5, h.k6⟩
theorem St.setL (h : St B count m p5 p6 g5 g6 v1 v2 w S T v q wr) (u : Value) : St B count m p5 p6 g5 g6 v1 v2 w S T u q (wr.setCell ⟨B + 3, 0, none⟩ u) := by
  have old : ∀ {k : Nat} {o : Obj}, wr.heap[k]? = some o → k ≠ B + 3 → (wr.setCell ⟨B + 3, 0, none⟩ u).heap[k]? = some o := fun {k o} hk hne => (Below.heap_setCell wr _ u k hne).trans hk
  have := h.l5; have := h.l6; have := h.k5; have := h.k6
  exact ⟨h.bel.setCell (by simp) _, old h.b0 (by omega), old h.b1 (by omega), old h.b2 (by omega), one_setCell h.b3, old h.b4 (by omega), old h.b5 (by omega), old h.q5 (by omega), old h.q6 (by omega), old h.s5 (by omega), old h.s6 (by omega), h.ne, h.l5, h.l6, h.k5, h.k6⟩
theorem St.setQ (h : St B count m p5 p6 g5 g6 v1 v2 w S T v q wr) (u : Bool) : St B count m p5 p6 g5 g6 v1 v2 w S T v u (wr.setCell ⟨B + 4, 0, none⟩ (.bool u)) := by
  have old : ∀ {k : Nat} {o : Obj}, wr.heap[k]? = some o → k ≠ B + 4 → (wr.setCell ⟨B + 4, 0, none⟩ (.bool u)).heap[k]? = some o := fun {k o} hk hne => (Below.heap_setCell wr _ _ k hne).trans hk
  have := h.l5; have := h.l6; have := h.k5; have := h.k6
  exact ⟨h.bel.setCell (by simp) _, old h.b0 (by omega), old h.b1 (by omega), old h.b2 (by omega), old h.b3 (by omega), one_setCell h.b4, old h.b5 (by omega), old h.q5 (by omega), old h.q6 (by omega), old h.s5 (by omega), old h.s6 (by omega), h.ne, h.l5, h.l6, h.k5, h.k6⟩
theorem St.drew (h : St B count m p5 p6 g5 g6 v1 v2 w S T v q wr) : St B count m p5 p6 g5 g6 v1 v2 w S T v q wr.drew := h.other (grown_drew (grown_refl wr none)) (fun _ h => by cases h)
theorem St.alloc (h : St B count m p5 p6 g5 g6 v1 v2 w S T v q wr) (o : Obj) : St B count m p5 p6 g5 g6 v1 v2 w S T v q (wr.alloc o) := h.other (World.grownBy_alloc wr o none) (fun _ h => by cases h)
end
theorem own_mono {w : World} {B B' E sz n : Nat} {v : Value} {cs : List Value} (h : w.ownsRow B E sz v n cs) (hB : B' ≤ B) : w.ownsRow B' E sz v n cs := ⟨h.1, h.2.imp id (fun ⟨g, cap, cur, a, b, c⟩ => ⟨g, cap, cur, a, Nat.le_trans hB b, c⟩)⟩
theorem own_set {w : World} {H j c E sz n : Nat} {v : Value} {cs : List Value} (h : w.ownsRow H E sz v n cs) (hj : j < H) (u : Value) : (w.setCell ⟨j, c, none⟩ u).ownsRow H E sz v n cs :=
  ⟨h.1, h.2.imp id (fun ⟨g, cap, cur, a, b, hh, r⟩ => ⟨g, cap, cur, a, b, (Below.heap_setCell w _ u g (by simp; omega)).trans hh, r⟩)⟩
/-- What the region of the two new sets leaves. -/
def Made (w : World) (m : Nat) (v5 v6 : Value) (wx : World) : Prop :=
  ∃ p5 p6 g5 g6 : Nat, v5 = .pointer (some ⟨p5, 0, none⟩) ∧ v6 = .pointer (some ⟨p6, 0, none⟩) ∧ wx.heap[p5]? = some (.cells #[.slice (some ⟨g5, 0, none⟩) m m] 39 (0, 0)) ∧ wx.heap[p6]? = some (.cells #[.slice (some ⟨g6, 0, none⟩) m m] 39 (0, 0)) ∧
    Vec wx g5 5 (byteCells (mbs m [])) ∧ Vec wx g6 5 (byteCells (mbs m [])) ∧ g5 ≠ g6 ∧ w.heap.size ≤ p5 ∧ w.heap.size ≤ p6 ∧ w.heap.size ≤ g5 ∧ w.heap.size ≤ g6 ∧ w.grownBy wx none
theorem Made.mk {w wx : World} {m p5 p6 g5 g6 : Nat} (q5 : wx.heap[p5]? = some (.cells #[.slice (some ⟨g5, 0, none⟩) m m] 39 (0, 0))) (q6 : wx.heap[p6]? = some (.cells #[.slice (some ⟨g6, 0, none⟩) m m] 39 (0, 0)))
    (s5 : Vec wx g5 5 (byteCells (mbs m []))) (s6 : Vec wx g6 5 (byteCells (mbs m []))) (ne : g5 ≠ g6) (l5 : w.heap.size ≤ p5) (l6 : w.heap.size ≤ p6) (k5 : w.heap.size ≤ g5) (k6 : w.heap.size ≤ g6) (hg : w.grownBy wx none) :
    Made w m (.pointer (some ⟨p5, 0, none⟩)) (.pointer (some ⟨p6, 0, none⟩)) wx := ⟨p5, p6, g5, g6, rfl, rfl, q5, q6, s5, s6, ne, l5, l6, k5, k6, hg⟩
end Go.Proofs.Ytibkicllbfheiaa
