/- xxhash's digest: Sum. -/
import Derived.Test.YtonndmljendcoaaDoorHashE
import Derived.Test.YtonndmljendcoaaDoorHashY
namespace Go.Proofs.YtonndmljendcoaaDoor
open Go.RowKit
set_option linter.unusedVariables false
set_option linter.unusedSimpArgs false
theorem row_new (w : World) (B : Nat) (xs : List Value) (t : TypeId) (h : w.heap.size = B) : ∀ j u, xs[j]? = some u → (w.alloc (.cells xs.toArray t)).cell? ((⟨B, 0, none⟩ : Addr).add j) = some u := by
  subst h
  intro j u hj
  have : (w.alloc (.cells xs.toArray t)).cell? ⟨w.heap.size, j, none⟩ = xs.toArray[j]? := World.cell?_alloc_mark w xs.toArray t (0, 0) j
  have e : ((⟨w.heap.size, 0, none⟩ : Addr).add j) = ⟨w.heap.size, j, none⟩ := by
    simp only [Addr.add]
    split
    · rename_i h0; subst h0; rfl
    · simp
  rw [e, this]
  simpa using hj
set_option maxRecDepth 100000 in
set_option maxHeartbeats 4000000 in
theorem sum_dig (B H : Nat) (S : List UInt8) (v : Value) (n : Nat) (xs : List Value) (w : World) (h : Dig w B S) (hS : S.length ≤ 100000) (hn : n ≤ 100000)
    (hO : ∀ w1, Below w.heap.size w w1 → w1.ownsRow H 5 1 v n xs) (hH : H ≤ w.heap.size) :
    Calls Tryd.prog 19 #[.pointer (some ⟨B, 0, none⟩), v] w fun e w' => ∃ v', e = .returned v' ∧ w'.ownsRow H 5 1 v' (n + 8) (xs ++ be8 (hash S)) ∧ ∃ w1 o, Below w.heap.size w w1 ∧ (w1.alloc o).grownBy w' v.ownBlock := by
  obtain ⟨i0, hi, hz0, hz1, hz2⟩ := info_parts infoU8
  have C := Lib.hid (sum64_any B S w h hS)
  have HO := Lib.hid hO
  clear h hO
  go_enter Tryd.func19, Tryd.ntmps19
  go_wp2_with (first | (go_at_call 34; refine C.out.mono ?_; rintro e w1 ⟨rfl, hb⟩; have HO1 := Lib.hid (HO.out w1 hb); have HB1 := Lib.hid hb; have hs1 := hb.size; clear hb) | (at_builtin; refine wpList_append_own _ rfl _ _ 22 rfl H 5 i0 (.int .u8 0) 1 1 Tryd.underlying22 hi hz0 hz1 hz2 rfl (by decide) _ _ _ rfl (HO1.out.alloc _) ⟨w1.heap.size, 0, none⟩ 8 8 (be8 (hash S)) rfl rfl (row_new w1 _ (be8 (hash S)) 5 rfl) (by simp [be8, Value.oneCell']) (by unfold maxLen; omega) (by omega) (by simp; omega) ?_; intro v' w2 hown hgrow _))
  have hg2 : (w1.alloc _).grownBy w2 v.ownBlock := hgrow
  clear hgrow
  go_ret
  exact ⟨v', rfl, hown, w1, _, HB1.out, hg2⟩
end Go.Proofs.YtonndmljendcoaaDoor
