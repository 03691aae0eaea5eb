/- What impl.Bits tells. -/
import Derived.Test.YtibkicllbfheiaaBitsF
import Derived.Defers
import Derived.Recover
import Derived.RegionTactic
import Derived.ChangeAlike
namespace Go.Proofs.Ytibkicllbfheiaa
open Go.RowKit
set_option linter.unusedVariables false
set_option linter.unusedSimpArgs false
theorem catch_idle (p : Addr) (w : World) :
    CallsD Try.prog 17 #[.pointer (some p)] .returning w fun e u' w' => e = .returned (.tuple #[]) ∧ u' = .returning ∧ w' = w := by
  refine callsD_of_wpS Try.func17 rfl fun c₀ cs hu => ?_
  apply wpS_seq
  apply wpS_region
  simp [wpOpsS, go_sem, recoverD, hu, Try.ntmps17, Exit.thenS]
  refine wpS_cond (t := false) (by simp [Act.eval, Array.replicate]) ?_
  simp only [Bool.false_eq_true, if_false]
  refine wpS_of_wp (wp_skip ?_)
  cases c₀
  simp_all [bodyPostS, results, Try.results17]
theorem calm_of (cap : Array Value) (w : World) (R : World → Prop)
    (H : Calls Try.prog 12 cap (w.alloc (.cells #[.bool false] 4)) fun e w' => e = .returned (.tuple #[]) ∧ w'.heap[w.heap.size]? = some (.cells #[.bool false] 4 (0, 0)) ∧ R w') :
    Calls Try.prog 11 #[.func (.func 12) #[] cap] w fun e w' => e = .returned (.bool true) ∧ ∃ w1, R w1 ∧ w1.heap[w.heap.size]? = some (.cells #[.bool false] 4 (0, 0)) ∧ w' = w1.setCell ⟨w.heap.size, 0, none⟩ (.bool true) := by
  have hmf : ∀ (fn : Fn) (first cap : Array Value) (w : World), (Instr.makeFunc fn first cap).run Try.prog w = .ok (.func fn first cap) w := fun _ _ _ _ => rfl
  go_enter_defers Try.func11, Try.ntmps11
  go_wp2_with fail
  refine H.mono ?_
  rintro e w' ⟨rfl, hb, hR⟩
  have h1 := cell_of_one hb
  have h2 := free_of_one hb
  go_wp2
  have h3 := cell_of_one (one_setCell (u := .bool true) hb)
  refine leaves_cons (f := 17) (args := #[.pointer (some ⟨w.heap.size, 0, none⟩)]) (by simp) (by simp [go_sem]) ?_
  refine (catch_idle ⟨w.heap.size, 0, none⟩ _).mono ?_
  rintro e u' w'' ⟨rfl, rfl, rfl⟩
  simp [Leaves, settle, results, Try.results11, go_sem, h3]
  exact ⟨_, hR, hb, rfl⟩
theorem six (w : World) (a b c d e f : Obj) : let W := (((((w.alloc a).alloc b).alloc c).alloc d).alloc e).alloc f
    W.heap[w.heap.size]? = some a ∧ W.heap[w.heap.size + 1]? = some b ∧ W.heap[w.heap.size + 2]? = some c ∧ W.heap[w.heap.size + 3]? = some d ∧ W.heap[w.heap.size + 4]? = some e ∧ W.heap[w.heap.size + 5]? = some f :=
  ⟨at_old (at_old (at_old (at_old (at_old (heap_at_new w a _ rfl) b) c) d) e) f, at_old (at_old (at_old (at_old (heap_at_new _ b _ (by simp)) c) d) e) f, at_old (at_old (at_old (heap_at_new _ c _ (by simp)) d) e) f, at_old (at_old (heap_at_new _ d _ (by simp)) e) f, at_old (heap_at_new _ e _ (by simp)) f, heap_at_new _ f _ (by simp)⟩
theorem Ints.below {w w' : World} {B B' : Nat} {a : Option Addr} {n : Nat} {zs : List Int} (h : Ints w B a n zs) (hb : Below B w w') (hB : B ≤ B') : Ints w' B' a n zs :=
  ⟨h.1, h.2.imp id fun ⟨b, off, ha, hl, hc⟩ => ⟨b, off, ha, by omega, fun i hi => (hb.cell (p := ⟨b, off + i, none⟩) hl).trans (hc i hi)⟩⟩
/-- What impl.Bits tells: the list of truths, whether the sets are the same. -/
def BitsTold (w : World) (count : Nat) (zs ys : List Int) (e : Ending) (w' : World) : Prop :=
  ∃ g cap, e = .returned (.tuple #[.slice (some ⟨g, 0, none⟩) count cap, .bool (sameB count zs ys), .bool true]) ∧ w'.ownsRow w.heap.size 4 1 (.slice (some ⟨g, 0, none⟩) count cap) count (boolCells (bm count zs)) ∧ Below w.heap.size w w'
set_option maxRecDepth 100000 in
set_option maxHeartbeats 8000000 in
theorem bits_any (count n1 c1 n2 c2 : Nat) (a1 a2 : Option Addr) (zs ys : List Int) (w : World) (hn : count ≤ 500) (hn0 : 0 < count) (hn1 : n1 ≤ 1000) (hn2 : n2 ≤ 1000)
    (hz : Ints w w.heap.size a1 n1 zs) (hy : Ints w w.heap.size a2 n2 ys) (hzr : ∀ x ∈ zs, 0 ≤ x ∧ x < count) (hyr : ∀ x ∈ ys, 0 ≤ x ∧ x < count) :
    Calls Try.prog 8 #[.int .i64 (count : Int), .slice a1 n1 c1, .slice a2 n2 c2] w (BitsTold w count zs ys) := by
  have hmf : ∀ (fn : Fn) (first cap : Array Value) (w : World), (Instr.makeFunc fn first cap).run Try.prog w = .ok (.func fn first cap) w := fun _ _ _ _ => rfl
  obtain ⟨b0, b1, b2, b3, b4, b5⟩ := six w (.cells #[.int .i64 (count : Int)] 3) (.cells #[.slice a1 n1 c1] 29) (.cells #[.slice a2 n2 c2] 29) (.cells #[.slice none 0 0] 30) (.cells #[.bool false] 4) (.cells #[.bool false] 4)
  have hbl : ∀ o1 o2 o3 o4 o5 o6, Below w.heap.size w ((((((w.alloc o1).alloc o2).alloc o3).alloc o4).alloc o5).alloc o6) := fun o1 o2 o3 o4 o5 o6 => ((((((Below.refl w.heap.size w).alloc (Nat.le_refl _) _).alloc (by simp) _).alloc (by simp; omega) _).alloc (by simp; omega) _).alloc (by simp; omega) _).alloc (by simp; omega) _
  have CF := bitsf_any count ((count + 7) / 8) n1 c1 n2 c2 a1 a2 zs ys w.heap.size _ rfl (by omega) hn0 hn1 hn2 b0 b1 b2 b3 b4 b5 (hz.below (hbl _ _ _ _ _ _) (Nat.le_refl _)) (hy.below (hbl _ _ _ _ _ _) (Nat.le_refl _)) hzr hyr
  have HBL := Lib.hid (hbl (.cells #[.int .i64 (count : Int)] 3) (.cells #[.slice a1 n1 c1] 29) (.cells #[.slice a2 n2 c2] 29) (.cells #[.slice none 0 0] 30) (.cells #[.bool false] 4) (.cells #[.bool false] 4))
  have HCF := Lib.hid CF
  have t1 : decide ((count : Int) < 0) = false := by simp
  have t2 : decide ((1000 : Int) < (count : Int)) = false := by simp; omega
  clear hbl CF b0 b1 b2 b3 b4 b5 hz hy hzr hyr
  obtain ⟨qq, hqq⟩ : ∃ q, q = sameB count zs ys := ⟨_, rfl⟩
  rw [← hqq] at HCF
  go_enter Try.func8, Try.ntmps8
  go_wp2_with fail
  refine (calm_of _ _ _ (by simpa using HCF.out)).mono ?_
  clear HCF
  simp only [World.size_alloc]
  rintro e w' ⟨rfl, w1, ⟨g, cap, g3, g4, ho, hb⟩, g5, rfl⟩
  have d3 := (Below.heap_setCell w1 ⟨w.heap.size + 5, 0, none⟩ (.bool true) (w.heap.size + 3) (by simp)).trans g3
  have d4 := (Below.heap_setCell w1 ⟨w.heap.size + 5, 0, none⟩ (.bool true) (w.heap.size + 4) (by simp)).trans g4
  have ho2 := Lib.hid (own_set (j := w.heap.size + 5) (c := 0) ho (by simp) (.bool true))
  have hb2 := Lib.hid ((HBL.out.trans hb).setCell (p := ⟨w.heap.size + 5, 0, none⟩) (by simp) (.bool true))
  generalize w1.setCell ⟨w.heap.size + 5, 0, none⟩ (.bool true) = W at *
  have c3 : W.cell? ⟨w.heap.size + 1 + 1 + 1, 0, none⟩ = some (.slice (some ⟨g, 0, none⟩) count cap) := cell_of_one d3
  have c4 : W.cell? ⟨w.heap.size + 1 + 1 + 1 + 1, 0, none⟩ = some (.bool qq) := cell_of_one d4
  have f3 : W.frozen? ⟨w.heap.size + 1 + 1 + 1, 0, none⟩ = false := free_of_one d3
  have f4 : W.frozen? ⟨w.heap.size + 1 + 1 + 1 + 1, 0, none⟩ = false := free_of_one d4
  have HQ := Lib.hid hqq
  clear g3 g4 g5 hb ho d3 d4 hqq
  go_wp2
  go_region
  all_goals go_wp2
  all_goals (
    have ho3 := (own_set (j := w.heap.size + 1 + 1 + 1 + 1) (c := 0) (own_set (j := w.heap.size + 1 + 1 + 1) (c := 0) ho2.out (by omega) (.slice (some ⟨g, 0, none⟩) count cap)) (by omega) (.bool qq)).drew
    exact bodyPost_ret (v := .tuple #[.slice (some ⟨g, 0, none⟩) count cap, .bool qq, .bool true]) (by simp [results, Try.results8, go_sem, c3, c4, f3, f4]) rfl
      ⟨g, cap, by rw [HQ.out], own_mono ho3 (by omega), ((hb2.out.setCell (by show w.heap.size ≤ w.heap.size + 1 + 1 + 1; omega) _).setCell (by show w.heap.size ≤ w.heap.size + 1 + 1 + 1 + 1; omega) _).drew⟩)
end Go.Proofs.Ytibkicllbfheiaa
