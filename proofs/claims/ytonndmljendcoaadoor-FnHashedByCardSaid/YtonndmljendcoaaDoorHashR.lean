/- xxhash's digest: New and Reset. -/
import Derived.Test.YtonndmljendcoaaDoorHashD
namespace Go.Proofs.YtonndmljendcoaaDoor
open Go.RowKit
set_option linter.unusedVariables false
set_option linter.unusedSimpArgs false
/-- Nothing but block B, and new blocks. -/
structure Only (B : Nat) (w w' : World) : Prop where
  os : w'.os = w.os
  tape : w'.tape = w.tape
  output : w'.output = w.output
  size : w.heap.size ≤ w'.heap.size
  block : ∀ k, k < w.heap.size → k ≠ B → w'.heap[k]? = w.heap[k]?
theorem Only.refl (B : Nat) (w : World) : Only B w w := ⟨rfl, rfl, rfl, Nat.le_refl _, fun _ _ _ => rfl⟩
theorem Only.trans {B : Nat} {a b c : World} (h : Only B a b) (k : Only B b c) : Only B a c :=
  ⟨k.os.trans h.os, k.tape.trans h.tape, k.output.trans h.output, Nat.le_trans h.size k.size, fun j h1 h2 => (k.block j (Nat.lt_of_lt_of_le h1 h.size) h2).trans (h.block j h1 h2)⟩
theorem Only.set (w : World) (B j : Nat) (v : Value) : Only B w (w.setCell ⟨B, j, none⟩ v) :=
  ⟨rfl, rfl, rfl, by simp, fun k _ hk => Below.heap_setCell w _ v k hk⟩
theorem Only.of_below {B : Nat} {w w' : World} (h : Below w.heap.size w w') : Only B w w' := ⟨h.os, h.tape, h.output, h.size, fun k hk _ => h.block k hk⟩
theorem Only.below {B : Nat} {w w' : World} (h : Only B w w') {A : Nat} (hA : A ≤ B) (hA2 : A ≤ w.heap.size) : Below A w w' := ⟨h.os, h.tape, h.output, h.size, fun k hk => h.block k (by omega) (by omega)⟩
theorem Raw.lt {w : World} {B t n : Nat} {v : V4} {mem : List UInt8} (h : Raw w B v t mem n) : B < w.heap.size := h.2.lt
theorem Raw.s0 {w : World} {B t n : Nat} {v : V4} {mem : List UInt8} (h : Raw w B v t mem n) (x : UInt64) : Raw (w.setCell ⟨B, 0, none⟩ (.int .u64 (x.toNat : Int))) B ⟨x, v.b, v.c, v.d⟩ t mem n := ⟨h.1, h.2.set 0 _⟩
theorem Raw.s1 {w : World} {B t n : Nat} {v : V4} {mem : List UInt8} (h : Raw w B v t mem n) (x : UInt64) : Raw (w.setCell ⟨B, 1, none⟩ (.int .u64 (x.toNat : Int))) B ⟨v.a, x, v.c, v.d⟩ t mem n := ⟨h.1, h.2.set 1 _⟩
theorem Raw.s2 {w : World} {B t n : Nat} {v : V4} {mem : List UInt8} (h : Raw w B v t mem n) (x : UInt64) : Raw (w.setCell ⟨B, 2, none⟩ (.int .u64 (x.toNat : Int))) B ⟨v.a, v.b, x, v.d⟩ t mem n := ⟨h.1, h.2.set 2 _⟩
theorem Raw.s3 {w : World} {B t n : Nat} {v : V4} {mem : List UInt8} (h : Raw w B v t mem n) (x : UInt64) : Raw (w.setCell ⟨B, 3, none⟩ (.int .u64 (x.toNat : Int))) B ⟨v.a, v.b, v.c, x⟩ t mem n := ⟨h.1, h.2.set 3 _⟩
theorem Raw.s4 {w : World} {B t n : Nat} {v : V4} {mem : List UInt8} (h : Raw w B v t mem n) (t' : Nat) : Raw (w.setCell ⟨B, 4, none⟩ (.int .u64 (t' : Int))) B v t' mem n := ⟨h.1, h.2.set 4 _⟩
theorem Raw.s37 {w : World} {B t n : Nat} {v : V4} {mem : List UInt8} (h : Raw w B v t mem n) (n' : Nat) : Raw (w.setCell ⟨B, 37, none⟩ (.int .i64 (n' : Int))) B v t mem n' := ⟨h.1, by have := h.2.set 37 (.int .i64 (n' : Int)); rwa [set37 _ _ _ _ _ h.1] at this⟩
set_option maxRecDepth 100000 in
set_option maxHeartbeats 4000000 in
theorem reset_any (B : Nat) (v : V4) (t : Nat) (mem : List UInt8) (n : Nat) (w : World) (h : Raw w B v t mem n) (hp : w.cell? ⟨0, 0, none⟩ = some (.int .u64 11400714785074694791)) (hB : B ≠ 0) :
    Calls Tryd.prog 20 #[.pointer (some ⟨B, 0, none⟩)] w fun e w' => e = .returned (.tuple #[]) ∧ Dig w' B [] ∧ Only B w w' := by
  obtain ⟨hm, hV⟩ := h
  have c0 := hV.cell (dig0 v t mem n)
  have c1 := hV.cell (dig1 v t mem n)
  have c2 := hV.cell (dig2 v t mem n)
  have c3 := hV.cell (dig3 v t mem n)
  have c4 := hV.cell (dig4 v t mem n)
  have c37 := hV.cell (dig37 v t mem n hm)
  have hf := hV.free
  have HV : Hid (Raw w B v t mem n) := ⟨hm, hV⟩
  have e1 : IntKind.u64.wrap 25430182151971714518 = (v0.a.toNat : Int) := rfl
  have e2 : IntKind.u64.wrap (-11400714785074694791) = (v0.d.toNat : Int) := rfl
  have E1 := Lib.hid e1
  have E2 := Lib.hid e2
  clear hV e1 e2
  go_enter Tryd.func20, Tryd.ntmps20
  go_wp2
  go_end0
  rw [E1.out, E2.out]
  have r := (((((HV.out.s0 v0.a).s1 P2).s2 zW).s3 v0.d).s4 0).s37 0
  refine ⟨rfl, ⟨mem, by rw [restV_end (by simp)]; simp, ?_⟩, ?_⟩
  · rw [restV_end (by simp), runV_end (by simp)]
    exact r
  · exact (((((Only.set w B 0 _).trans (Only.set _ B 1 _)).trans (Only.set _ B 2 _)).trans (Only.set _ B 3 _)).trans (Only.set _ B 4 _)).trans (Only.set _ B 37 _)
set_option maxRecDepth 100000 in
set_option maxHeartbeats 4000000 in
theorem new_any (w : World) (hp : w.cell? ⟨0, 0, none⟩ = some (.int .u64 11400714785074694791)) :
    Calls Tryd.prog 17 #[] w fun e w' => e = .returned (.pointer (some ⟨w.heap.size, 0, none⟩)) ∧ Dig w' w.heap.size [] ∧ Below w.heap.size w w' := by
  have hB : 0 < w.heap.size := World.block_lt_of_cell? w _ hp
  have C := Lib.hid (fun W h hc => reset_any w.heap.size ⟨0, 0, 0, 0⟩ 0 (List.replicate 32 0) 0 W h hc (by omega))
  have HP := Lib.hid hp
  clear hp
  go_enter Tryd.func17, Tryd.ntmps17
  go_wp2_with (go_at_call 20; refine (C.out _ ⟨rfl, heap_at_new w _ _ rfl⟩ ?_).mono ?_; rotate_left; rintro e w1 ⟨rfl, hd, ho⟩; rotate_left; exact (Below.cell ((Below.refl w.heap.size w).alloc (Nat.le_refl _) _) hB).trans HP.out)
  go_ret
  exact ⟨rfl, hd, ((Below.refl _ w).alloc (Nat.le_refl _) _).trans (ho.below (Nat.le_refl _) (by simp))⟩
end Go.Proofs.YtonndmljendcoaaDoor
