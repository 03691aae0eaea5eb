/- FnHashedBy's law: what holds at its first loop's head. -/
import Derived.Test.YtonndmljendcoaaDoorHashO
namespace Go.Proofs.YtonndmljendcoaaDoor
open Go.RowKit
set_option linter.unusedVariables false
set_option linter.unusedSimpArgs false
structure LSt (w0 : World) (S : List UInt8) (ans : List (List UInt8)) (wv o : Value) (k : Nat) (vals : List Value) (W : World) : Prop where
  own1 : W.ownsRow w0.heap.size 5 1 wv S.length (byteCells S)
  own2 : W.ownsRow w0.heap.size 22 1 o k vals
  rows : RowsAre W w0.heap.size vals ans
  apart : ∀ v ∈ vals, v.ownBlock = none ∨ v.ownBlock ≠ wv.ownBlock
  below : Below w0.heap.size w0 W
theorem LSt.more {w0 W W' : World} {S : List UInt8} {ans : List (List UInt8)} {wv o : Value} {k : Nat} {vals : List Value} (h : LSt w0 S ans wv o k vals W) (hb : Below W.heap.size W W') : LSt w0 S ans wv o k vals W' :=
  ⟨own_below h.own1 hb, own_below h.own2 hb, h.rows.of fun g cur _ hg => hb.block g (Array.getElem?_eq_some_iff.1 hg).1, h.apart, h.below.trans (hb.mono h.below.size)⟩
theorem mem_row {W : World} {lo : Nat} {vals : List Value} {ans : List (List UInt8)} (h : RowsAre W lo vals ans) {v : Value} (hv : v ∈ vals) : ∃ l, W.ownsRow lo 5 1 v l.length (byteCells l) := by
  obtain ⟨j, hj⟩ := List.mem_iff_getElem?.1 hv
  obtain ⟨hl, _⟩ := List.getElem?_eq_some_iff.1 hj
  exact ⟨_, h.2 j v _ hj (List.getElem?_eq_getElem (by rw [← h.1]; exact hl))⟩
theorem LSt.write {w0 W W' : World} {S : List UInt8} {ans : List (List UInt8)} {wv o v' : Value} {k m : Nat} {vals : List Value} {l : List UInt8} (h : LSt w0 S ans wv o k vals W) (hl : l.length = m)
    (ho : W'.ownsRow w0.heap.size 5 1 v' (S.length + m) (byteCells S ++ byteCells l)) (hg : W.grownBy W' wv.ownBlock) (hat : v'.ownBlock = wv.ownBlock ∨ v'.ownBlock = some W.heap.size) : LSt w0 (S ++ l) ans v' o k vals W' := by
  refine ⟨?_, own_of h.own2 fun g cur hg1 hgg => hg.block g (Array.getElem?_eq_some_iff.1 hgg).1 fun e => ?_, ⟨h.rows.1, fun j v l hv hm => (h.rows.2 j v l hv hm).kept hg (h.apart v (List.mem_of_getElem? hv))⟩, fun v hv => ?_, h.below.grown hg h.below.size fun g hgk => (own_type h.own1 g hgk).1⟩
  · have e : byteCells (S ++ l) = byteCells S ++ byteCells l := by simp [byteCells]
    rw [e, List.length_append, hl]
    exact ho
  · obtain ⟨_, cur2, h2⟩ := own_type h.own1 g e.symm
    rw [hgg] at h2
    simp at h2
  · rcases hat with e | e
    · rw [e]; exact h.apart v hv
    · rw [e]
      obtain ⟨l2, h2⟩ := mem_row h.rows hv
      cases hb : v.ownBlock with
      | none => exact .inl rfl
      | some g =>
        right
        have := (h2.lt g hb).2
        intro e2
        simp at e2
        omega
theorem LSt.reset {w0 W : World} {S : List UInt8} {ans : List (List UInt8)} {wv o : Value} {k : Nat} {vals : List Value} (h : LSt w0 S ans wv o k vals W) : LSt w0 [] ans (.slice none 0 0) o k vals W :=
  ⟨World.ownsRow_nil _ _ _ _, h.own2, h.rows, fun v _ => by cases hb : v.ownBlock <;> simp [Value.ownBlock], h.below⟩
theorem LSt.push {w0 W W1 : World} {S : List UInt8} {ans : List (List UInt8)} {wv o o' : Value} {k : Nat} {vals : List Value} (h : LSt w0 S ans wv o k vals W) {v : Value} {l : List UInt8} (hv : W.ownsRow w0.heap.size 5 1 v l.length (byteCells l)) (hva : v.ownBlock = none ∨ v.ownBlock ≠ wv.ownBlock)
    (hg : W.grownBy W1 o.ownBlock) (ho : W1.ownsRow w0.heap.size 22 1 o' (k + 1) (vals ++ [v])) : LSt w0 S (ans ++ [l]) wv o' (k + 1) (vals ++ [v]) W1 := by
  have k5 : ∀ g cur, w0.heap.size ≤ g → W.heap[g]? = some (.cells cur 5 (0, 0)) → W1.heap[g]? = W.heap[g]? := fun g cur _ hgg => by
    refine hg.block g (Array.getElem?_eq_some_iff.1 hgg).1 fun e => ?_
    obtain ⟨_, cur2, h2⟩ := own_type h.own2 g e.symm
    rw [hgg] at h2
    simp at h2
  refine ⟨own_of h.own1 k5, ho, (h.rows.of k5).snoc (own_of hv k5), fun u hu => ?_, h.below.grown hg h.below.size fun g hgk => (own_type h.own2 g hgk).1⟩
  rcases List.mem_append.1 hu with hu | hu
  · exact h.apart u hu
  · simp at hu; subst hu; exact hva
theorem own_sl {W : World} {base : Nat} {v : Value} {l : List UInt8} (h : W.ownsRow base 5 1 v l.length (byteCells l)) : ∃ a c, v = .slice a l.length c ∧ SlB W a l.length c l ∧ (a = none → c = 0) := by
  rcases h.2 with ⟨rfl, h0⟩ | ⟨g, cap, cur, rfl, _, hg, hc, _, _, hcur⟩
  · rw [h0]; exact ⟨none, 0, rfl, ⟨h0, Nat.le_refl _, .inl rfl⟩, fun _ => rfl⟩
  · refine ⟨_, cap, rfl, ⟨rfl, hc, .inr ⟨g, 0, rfl, (Array.getElem?_eq_some_iff.1 hg).1, fun j hj => ?_⟩⟩, fun e => by cases e⟩
    have h1 : (byteCells l)[j]? = some (.int .u8 ((l[j]'hj).toNat : Int)) := by simp [byteCells, List.getElem?_eq_getElem hj]
    rw [← hcur, List.getElem?_take] at h1
    split at h1
    · simp [World.cell?, hg]
      simpa using h1
    · cases h1
theorem hash_own {W : World} {base : Nat} {v : Value} {l : List UInt8} (h : W.ownsRow base 5 1 v l.length (byteCells l)) (hn : l.length ≤ 100000) :
    Calls Tryd.prog 6 #[v] W fun e w' => e = .returned (.int .u64 ((hash l).toNat : Int)) ∧ Below W.heap.size W w' := by
  obtain ⟨a, c, rfl, hs, _⟩ := own_sl h
  exact hash_sl a l.length c l W hs hn
theorem conv_own {W : World} {base : Nat} {v : Value} {l : List UInt8} (h : W.ownsRow base 5 1 v l.length (byteCells l)) (hl : 0 < l.length) : (convert 22 9 v).run Tryd.prog W = .ok (.string ⟨l.toArray⟩) W := by
  obtain ⟨a, c, rfl, ⟨_, _, h3⟩, _⟩ := own_sl h
  rcases h3 with h3 | ⟨g, off, rfl, _, hb⟩
  · omega
  · refine run_convert_bytes_back (P := Tryd.prog) W 22 9 5 ⟨g, off, none⟩ c l Tryd.underlying22 Tryd.underlying5 Tryd.underlying9 (fun j hj => ?_)
    have e : (⟨g, off, none⟩ : Addr).add j = ⟨g, off + j, none⟩ := by unfold Addr.add; split <;> simp_all
    rw [e]
    exact hb j hj
theorem fits6_nil (a : Option Addr) (c : Nat) (w : World) : Calls Tryd.prog 7 #[.slice a 0 c] w fun e w' => e = .returned (.bool true) ∧ w' = w := by
  go_enter Tryd.func7, Tryd.ntmps7
  go_wp2
  refine wp_loop_rounds 1 ?_
  rw [rounds_succ]
  go_wp2
  go_ret
  exact ⟨rfl, rfl⟩
end Go.Proofs.YtonndmljendcoaaDoor
