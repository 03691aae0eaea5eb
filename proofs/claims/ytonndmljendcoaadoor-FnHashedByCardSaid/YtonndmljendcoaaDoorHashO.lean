/- What impl.HashedBy tells: the answers, one behind the other. -/
import Derived.Test.YtonndmljendcoaaDoorHashM
import Derived.Test.YtonndmljendcoaaDoorHashQ
namespace Go.Proofs.YtonndmljendcoaaDoor
open Go.RowKit
set_option linter.unusedVariables false
set_option linter.unusedSimpArgs false
def HTold (w : World) (xs : List Stp) (e : Ending) (w' : World) : Prop :=
  ∃ o vals, e = .returned (.tuple #[o, .bool true]) ∧ w'.ownsRow w.heap.size 22 1 o xs.length vals ∧ RowsAre w' w.heap.size vals (answers [] (xs.map Stp.pr)) ∧ Below w.heap.size w w'
theorem at_old {w : World} {k : Nat} {o : Obj} (h : w.heap[k]? = some o) (p : Obj) : (w.alloc p).heap[k]? = some o := by
  rw [← h]
  exact ((Below.refl w.heap.size w).alloc (Nat.le_refl _) p).block k (Array.getElem?_eq_some_iff.1 h).1
theorem three (w : World) (a b c : Obj) : ((((w.alloc a).alloc b).alloc c).heap[w.heap.size]? = some a) ∧ ((((w.alloc a).alloc b).alloc c).heap[w.heap.size + 1]? = some b) ∧ ((((w.alloc a).alloc b).alloc c).heap[w.heap.size + 2]? = some c) :=
  ⟨at_old (at_old (heap_at_new w a _ rfl) b) c, at_old (heap_at_new _ b _ (by simp)) c, heap_at_new _ c _ (by simp)⟩
theorem RowsAre.low {W : World} {lo lo' : Nat} {vals : List Value} {ans : List (List UInt8)} (h : RowsAre W lo vals ans) (hl : lo' ≤ lo) : RowsAre W lo' vals ans := ⟨h.1, fun j v l hv hm => own_low (h.2 j v l hv hm) hl⟩
set_option maxRecDepth 100000 in
set_option maxHeartbeats 8000000 in
theorem hashedby_any (b off n c : Nat) (xs : List Stp) (w : World) (hn : xs.length = n) (hn1 : 0 < n) (hn0 : n ≤ 50) (hb : b < w.heap.size) (hx : StepsAt w b off (xs.map Stp.tri)) (hf : ∀ x ∈ xs, x.fits w w.heap.size) (hl : ∀ x ∈ xs, x.n ≤ 500)
    (hp : w.cell? ⟨0, 0, none⟩ = some (.int .u64 11400714785074694791)) :
    Calls Tryd.prog 9 #[.slice (some ⟨b, off, none⟩) n c] w (HTold w xs) := by
  have hmf : ∀ (fn : Fn) (first cap : Array Value) (w : World), (Instr.makeFunc fn first cap).run Tryd.prog w = .ok (.func fn first cap) w := fun _ _ _ _ => rfl
  obtain ⟨b0, b1, b2⟩ := three w (.cells #[.slice (some ⟨b, off, none⟩) n c] 26) (.cells #[.slice none 0 0] 28) (.cells #[.bool false] 4)
  have hbl : Below w.heap.size w (((w.alloc (.cells #[.slice (some ⟨b, off, none⟩) n c] 26)).alloc (.cells #[.slice none 0 0] 28)).alloc (.cells #[.bool false] 4)) := (((Below.refl w.heap.size w).alloc (Nat.le_refl _) _).alloc (by simp) _).alloc (by simp; omega) _
  have h0 : 0 < w.heap.size := World.block_lt_of_cell? w _ hp
  have CF := closure_any w.heap.size (w.heap.size + 1) b off n c xs _ hn hn0 (by omega) (by omega) (by simp) (hx.of (hbl.block b hb)) (fun x hxx => ⟨((hf x hxx).of (w' := (((w.alloc (.cells #[.slice (some ⟨b, off, none⟩) n c] 26)).alloc (.cells #[.slice none 0 0] 28)).alloc (.cells #[.bool false] 4))) (fun g hg => hbl.block g hg) hbl.size).1, fun g o e hp => by have := (hf x hxx).2.1 g o e hp; omega, (hf x hxx).2.2⟩) hl (cell_of_one b0) b1 ((hbl.cell h0).trans hp)
  have HBL := Lib.hid hbl
  have HCF := Lib.hid CF
  have HB2 := Lib.hid b2
  have HN := Lib.hid hn
  clear hbl CF b0 b1 b2 hx hf hl hp hn
  go_enter Tryd.func9, Tryd.ntmps9
  go_wp2_with fail
  refine (calm_of _ _ (fun W => ∃ o vals, St (((w.alloc (.cells #[.slice (some ⟨b, off, none⟩) n c] 26)).alloc (.cells #[.slice none 0 0] 28)).alloc (.cells #[.bool false] 4)) (w.heap.size + 1) (after [] (xs.map Stp.pr)) (answers [] (xs.map Stp.pr)) o xs.length vals W) ?_).mono ?_
  · refine HCF.out.mono ?_
    rintro e w' ⟨rfl, o, vals, h⟩
    rw [List.take_of_length_le (by simp)] at h
    refine ⟨rfl, ?_, o, vals, h⟩
    simp only [World.size_alloc]
    exact (h.only.block (w.heap.size + 2) (by simp) (by omega)).trans HB2.out
  clear HCF
  simp only [World.size_alloc]
  rintro e w' ⟨rfl, w1, ⟨o, vals, h⟩, g5, rfl⟩
  obtain ⟨g, cap, rfl, _, _⟩ := h.own.form (by have := HN.out; omega)
  have d3 := (Below.heap_setCell w1 ⟨w.heap.size + 1 + 1, 0, none⟩ (.bool true) (w.heap.size + 1) (by simp)).trans h.out
  have ho2 := Lib.hid (own_of (w' := w1.setCell ⟨w.heap.size + 1 + 1, 0, none⟩ (.bool true)) h.own fun g cur hg _ => Below.heap_setCell w1 _ _ g (by simp at hg; show g ≠ _; simp; omega))
  have hr2 := Lib.hid (h.rows.of (W' := w1.setCell ⟨w.heap.size + 1 + 1, 0, none⟩ (.bool true)) fun g cur hg _ => Below.heap_setCell w1 _ _ g (by simp at hg; show g ≠ _; simp; omega))
  have hb2 := Lib.hid ((HBL.out.trans ((h.only.below (A := w.heap.size) (by omega) (by simp; omega)))).setCell (p := ⟨w.heap.size + 1 + 1, 0, none⟩) (by show w.heap.size ≤ w.heap.size + 1 + 1; omega) (.bool true))
  clear h g5
  generalize w1.setCell ⟨w.heap.size + 1 + 1, 0, none⟩ (.bool true) = W at *
  have c3 : W.cell? ⟨w.heap.size + 1, 0, none⟩ = some (.slice (some ⟨g, 0, none⟩) xs.length cap) := cell_of_one d3
  have f3 : W.frozen? ⟨w.heap.size + 1, 0, none⟩ = false := free_of_one d3
  clear d3
  go_wp2
  have ho3 := own_of (w' := W.setCell ⟨w.heap.size + 1, 0, none⟩ (.slice (some ⟨g, 0, none⟩) xs.length cap)) ho2.out fun g cur hg _ => Below.heap_setCell W _ _ g (by simp at hg; show g ≠ _; simp; omega)
  have hr3 := hr2.out.of (W' := W.setCell ⟨w.heap.size + 1, 0, none⟩ (.slice (some ⟨g, 0, none⟩) xs.length cap)) fun g cur hg _ => Below.heap_setCell W _ _ g (by simp at hg; show g ≠ _; simp; omega)
  exact bodyPost_ret (v := .tuple #[.slice (some ⟨g, 0, none⟩) xs.length cap, .bool true]) (by simp [results, Tryd.results9, go_sem, c3, f3]) rfl
    ⟨_, vals, rfl, own_low ho3 (by simp; omega), hr3.low (by simp; omega), hb2.out.setCell (by show w.heap.size ≤ w.heap.size + 1; omega) _⟩
end Go.Proofs.YtonndmljendcoaaDoor
