/- impl.DataOf (9). -/
import Derived.Test.YtmfbnmjmgpafmaaDoorDatB
namespace Go.Proofs.YtmfbnmjmgpafmaaDoor
open Go.RowKit
set_option linter.unusedVariables false
set_option linter.unusedSimpArgs false
set_option maxRecDepth 1000000 in
set_option maxHeartbeats 8000000 in
theorem dataOf_any (s r : ByteArray) (b : Bool) (t : List Nat) (w : World)
    (hP : Calls Tryd.prog 13 #[.string s] w fun e w' => e = .returned (.tuple #[.agg #[.string css, .string r, .bool b], .bool true]) ∧ Below w.heap.size w w')
    (hD : ∀ W : World, Below w.heap.size w W → Calls Tryd.prog 14 #[.agg #[.string css, .string r, .bool b]] W fun e w' => (∃ q : ByteArray, nums q = t ∧ e = .returned (.tuple #[.string q, .nilIface])) ∧ Below W.heap.size W w') :
    Calls Tryd.prog 9 #[.string s] w fun e w' => (∃ q : ByteArray, nums q = t ∧ e = .returned (.tuple #[.int .i64 1, .string q, .bool true])) ∧ Below w.heap.size w w' := by
  have HP := Lib.hid hP
  have HD := Lib.hid hD
  have HM := Lib.hid (fun W : World => mime_any r b W)
  clear hP hD
  go_enter Tryd.func9, Tryd.ntmps9
  go_wp2_with (go_at_call 13; refine HP.out.mono ?_; rintro e w1 ⟨rfl, h1⟩)
  have hB1 := Lib.hid (h1.trans ((below_alloc (w := w1) (Obj.cells #[Value.string css, Value.string r, Value.bool b] 38)).mono h1.size))
  obtain ⟨N, hN⟩ : ∃ N, w1.heap.size = N := ⟨_, rfl⟩
  have k0 : (w1.alloc (Obj.cells #[Value.string css, Value.string r, Value.bool b] 38)).cell? ⟨N, 0, none⟩ = some (.string css) := by
    rw [← hN, World.cell?, heap_alloc_new]
    rfl
  have k1 : (w1.alloc (Obj.cells #[Value.string css, Value.string r, Value.bool b] 38)).cell? ⟨N, 1, none⟩ = some (.string r) := by
    rw [← hN, World.cell?, heap_alloc_new]
    rfl
  have k2 : (w1.alloc (Obj.cells #[Value.string css, Value.string r, Value.bool b] 38)).cell? ⟨N, 2, none⟩ = some (.bool b) := by
    rw [← hN, World.cell?, heap_alloc_new]
    rfl
  have hlt : N < (w1.alloc (Obj.cells #[Value.string css, Value.string r, Value.bool b] 38)).heap.size := by rw [World.size_alloc]; omega
  have hge : w.heap.size ≤ (w1.alloc (Obj.cells #[Value.string css, Value.string r, Value.bool b] 38)).heap.size := hB1.out.size
  rw [hN] at ⊢
  clear h1 hN
  generalize w1.alloc (Obj.cells #[Value.string css, Value.string r, Value.bool b] 38) = w2 at hB1 k0 k1 k2 hlt hge ⊢
  go_wp2_with (go_at_call 14; refine (HD.out _ hB1.out).mono ?_; rintro e w3 ⟨⟨q, hq, rfl⟩, h3⟩; have c0 := (h3.cell (p := ⟨N, 0, none⟩) hlt).trans k0; have c1 := (h3.cell (p := ⟨N, 1, none⟩) hlt).trans k1; have c2 := (h3.cell (p := ⟨N, 2, none⟩) hlt).trans k2)
  go_wp2_with (go_at_call 15; refine (HM.out _).mono ?_; rintro e w4 ⟨rfl, h4⟩)
  have HB := Lib.hid ((hB1.out.trans (h3.mono hge)).trans (h4.mono (by have := h3.size; omega)))
  first | go_ret3 | go_returns
  exact ⟨⟨q, hq, rfl⟩, HB.out⟩
end Go.Proofs.YtmfbnmjmgpafmaaDoor
