/- What a BitSet's functions tell. -/
import Derived.Test.YtibkicllbfheiaaBitsL
import Derived.Test.YtibkicllbfheiaaRows
import Derived.Test.YtibkicllbfheiaaShelf
import Derived.WalkKit
import Derived.WalkSpells
import Derived.WalkLawsBesides
import Derived.LoopTactic
import Derived.Outline
import Derived.Lib.Hide
import Derived.OneCell
import Derived.Laws.BitsAllLaws
import Derived.Deep.OwnRows
import Derived.Laws.OwnMore
namespace Go.Proofs.Ytibkicllbfheiaa
open Go.RowKit
set_option linter.unusedVariables false
set_option linter.unusedSimpArgs false

/-- A block that is known whole. -/
def Vec (w : World) (g : Nat) (t : TypeId) (xs : List Value) : Prop := w.heap[g]? = some (.cells xs.toArray t (0, 0))
def byteCells (l : List Nat) : List Value := l.map fun b : Nat => Value.int .u8 (b : Int)
def boolCells (l : List Bool) : List Value := l.map Value.bool
theorem Vec.cell {w : World} {g : Nat} {t : TypeId} {xs : List Value} (h : Vec w g t xs) {j : Nat} {v : Value} (hj : xs[j]? = some v) : w.cell? ⟨g, j, none⟩ = some v := by
  unfold Vec at h
  simp [World.cell?, h, hj]
theorem Vec.free {w : World} {g : Nat} {t : TypeId} {xs : List Value} (h : Vec w g t xs) (j : Nat) : w.frozen? ⟨g, j, none⟩ = false := by
  unfold Vec at h
  simp [World.frozen?, h]
theorem Vec.lt {w : World} {g : Nat} {t : TypeId} {xs : List Value} (h : Vec w g t xs) : g < w.heap.size := lt_of_block h
theorem Vec.set {w : World} {g : Nat} {t : TypeId} {xs : List Value} (h : Vec w g t xs) (j : Nat) (v : Value) : Vec (w.setCell ⟨g, j, none⟩ v) g t (xs.set j v) := by
  have hlt := h.lt
  have h' : w.heap[g] = .cells xs.toArray t (0, 0) := by have := h; unfold Vec at this; simpa [Array.getElem?_eq_getElem hlt] using this
  show (w.heap.modify g _)[g]? = _
  rw [Array.getElem?_eq_getElem (by simpa using hlt), Array.getElem_modify_self, h']
  simp
theorem Vec.grown {w w' : World} {g : Nat} {t : TypeId} {xs : List Value} (h : Vec w g t xs) {r : Option Nat} (hg : w.grownBy w' r) (hr : r ≠ some g) : Vec w' g t xs := by
  unfold Vec at *
  rw [hg.block g (lt_of_block h) (fun e => hr e.symm)]
  exact h
theorem bytes_at {m : Nat} {S : List Int} {j : Nat} (h : j < m) : (byteCells (mbs m S))[j]? = some (.int .u8 (mb S j : Int)) := by simp [byteCells, mbs_at m S j h]
theorem bools_at {n : Nat} {S : List Int} {j : Nat} (h : j < n) : (boolCells (bm n S))[j]? = some (.bool (decide ((j : Int) ∈ S))) := by simp [boolCells, bm_at n S j h]
theorem bytes_set (m : Nat) (S : List Int) (z : Nat) (h : z / 8 < m) : (byteCells (mbs m S)).set (z / 8) (.int .u8 ((mb S (z / 8) ||| 2 ^ (z % 8) : Nat) : Int)) = byteCells (mbs m (S ++ [(z : Int)])) := by
  rw [← mbs_set m S z h]
  unfold byteCells
  rw [List.map_set]
theorem bools_set (n : Nat) (S : List Int) (z : Nat) (h : z < n) : (boolCells (bm n S)).set z (.bool true) = boolCells (bm n (S ++ [(z : Int)])) := by
  rw [← bm_set n S z h]
  unfold boolCells
  rw [List.map_set]
theorem heap_at_new (w : World) (o : Obj) (k : Nat) (h : k = w.heap.size) : (w.alloc o).heap[k]? = some o := by subst h; exact heap_alloc_new w o
theorem grown_set (w : World) (g j : Nat) (v : Value) : w.grownBy (w.setCell ⟨g, j, none⟩ v) (some g) :=
  ⟨rfl, rfl, rfl, by simp, fun k hk hne => Below.heap_setCell w _ v k (fun e => hne (by rw [e]))⟩
theorem grown_trans {a b c : World} {r : Option Nat} (h : a.grownBy b r) (k : b.grownBy c r) : a.grownBy c r :=
  ⟨k.os.trans h.os, k.tape.trans h.tape, k.output.trans h.output, Nat.le_trans h.size k.size, fun i hi hr => (k.block i (Nat.lt_of_lt_of_le hi h.size) hr).trans (h.block i hi hr)⟩
theorem infoU8 : (Try.prog.info? 5).map (fun i => (i.zero, i.size, i.bytes)) = some (some (.int .u8 0), 1, 1) := by kernel_rfl
theorem infoBool : (Try.prog.info? 4).map (fun i => (i.zero, i.size, i.bytes)) = some (some (.bool false), 1, 1) := by kernel_rfl
theorem made_bytes (m : Nat) : madeCells #[.int .u8 0] m = (byteCells (mbs m [])).toArray := by
  apply Array.ext'
  rw [toList_madeCells_one, mbs_nil]
  simp [byteCells]
theorem made_bools (n : Nat) : madeCells #[.bool false] n = (boolCells (bm n [])).toArray := by
  apply Array.ext'
  rw [toList_madeCells_one, bm_nil]
  simp [boolCells]
set_option maxRecDepth 100000 in
set_option maxHeartbeats 2000000 in
theorem newbits_any (n m : Nat) (hn : n ≤ 1000) (hm : m = (n + 7) / 8) (w : World) :
    Calls Try.prog 13 #[.int .u64 (n : Int)] w fun e w' => e = .returned (.agg #[.slice (some ⟨w.heap.size + 1, 0, none⟩) m m]) ∧ (w.alloc (.cells #[.slice (some ⟨w.heap.size + 1, 0, none⟩) m m] 39)).alloc (.cells (madeCells #[.int .u8 0] m) 5) = w' := by
  have hm2 : ((n : Int) + 7) / 8 = (m : Int) := by omega
  have hmk := run_make_row' (P := Try.prog) 37 5 (.int .u8 0) 1 Try.underlying37 infoU8 rfl .u64 .u64 m (by omega) (by omega)
  clear hm
  go_enter Try.func13, Try.ntmps13
  go_wp2
  refine bodyPost_ret (v := .agg #[.slice (some ⟨w.heap.size + 1, 0, none⟩) m m]) (by simp [results, Try.results13, go_sem]) rfl ⟨rfl, rfl⟩
set_option maxRecDepth 100000 in
set_option maxHeartbeats 2000000 in
theorem setbit_any (g m z : Nat) (S : List Int) (w : World) (hV : Vec w g 5 (byteCells (mbs m S))) (hm : m ≤ 1000) (hz : z / 8 < m) :
    Calls Try.prog 14 #[.agg #[.slice (some ⟨g, 0, none⟩) m m], .int .u64 (z : Int)] w fun e w' => e = .returned (.tuple #[]) ∧ Vec w' g 5 (byteCells (mbs m (S ++ [(z : Int)]))) ∧ w.grownBy w' (some g) := by
  have hset := bytes_set m S z hz
  have hV1 : Vec (w.alloc (.cells #[.slice (some ⟨g, 0, none⟩) m m] 39)) g 5 (byteCells (mbs m S)) := hV.grown (World.grownBy_alloc w _ none) (by simp)
  have hV2 := hV.set (z / 8) (.int .u8 ((mb S (z / 8) ||| 2 ^ (z % 8) : Nat) : Int))
  rw [hset] at hV2
  obtain ⟨B, hB⟩ : ∃ B, B = mb S (z / 8) := ⟨_, rfl⟩
  have hB256 := mb_lt S (z / 8)
  have hc := hV1.cell (bytes_at hz)
  have hf := hV1.free (z / 8)
  rw [← hB] at hV2 hB256 hc
  obtain ⟨r, hr⟩ : ∃ r, r = z % 8 := ⟨_, rfl⟩
  have ha : bits .and .u64 (z : Int) 7 = (r : Int) := by rw [show (7 : Int) = ((7 : Nat) : Int) from rfl, u64_and_nat z 7 (by omega) (by omega), nat_mask3, hr]
  rw [← hr] at hV2
  have hr8 : r < 8 := by omega
  have hp : 2 ^ r < 256 := Nat.pow_lt_pow_of_lt (a := 2) (by decide) hr8
  obtain ⟨p, hpp⟩ : ∃ p, p = 2 ^ r := ⟨_, rfl⟩
  have hw1 : IntKind.u8.wrap (2 ^ r) = (p : Int) := by
    rw [IntKind.wrap_u8', show ((2 : Int) ^ r) = ((2 ^ r : Nat) : Int) by simp, ← hpp]; omega
  rw [← hpp] at hV2 hp
  have hor := u8_or_nat B p hB256 hp
  have HV := Lib.hid hV2
  have hlt := hV.lt
  have hz64 : z < 8000 := by omega
  clear hV hV1 hV2 hset hB hr hpp
  go_enter Try.func14, Try.ntmps14
  go_wp2
  go_end0
  exact ⟨rfl, HV.out.grown (World.grownBy_alloc _ _ none) (by simp), grown_trans (grown_set _ _ _ _) (World.grownBy_alloc _ _ _)⟩
set_option maxRecDepth 100000 in
set_option maxHeartbeats 2000000 in
theorem hasbit_any (g m z : Nat) (S : List Int) (w : World) (hV : Vec w g 5 (byteCells (mbs m S))) (hm : m ≤ 1000) (hz : z / 8 < m) :
    Calls Try.prog 15 #[.agg #[.slice (some ⟨g, 0, none⟩) m m], .int .u64 (z : Int)] w fun e w' => e = .returned (.bool (decide ((z : Int) ∈ S))) ∧ w.alloc (.cells #[.slice (some ⟨g, 0, none⟩) m m] 39) = w' := by
  have hV1 : Vec (w.alloc (.cells #[.slice (some ⟨g, 0, none⟩) m m] 39)) g 5 (byteCells (mbs m S)) := hV.grown (World.grownBy_alloc w _ none) (by simp)
  have hand := has_and S z
  obtain ⟨B, hB⟩ : ∃ B, B = mb S (z / 8) := ⟨_, rfl⟩
  have hB256 := mb_lt S (z / 8)
  have hc := hV1.cell (bytes_at hz)
  rw [← hB] at hB256 hc hand
  obtain ⟨r, hr⟩ : ∃ r, r = z % 8 := ⟨_, rfl⟩
  have ha : bits .and .u64 (z : Int) 7 = (r : Int) := by rw [show (7 : Int) = ((7 : Nat) : Int) from rfl, u64_and_nat z 7 (by omega) (by omega), nat_mask3, hr]
  rw [← hr] at hand
  have hr8 : r < 8 := by omega
  have hp : 2 ^ r < 256 := Nat.pow_lt_pow_of_lt (a := 2) (by decide) hr8
  have hp0 : 0 < 2 ^ r := Nat.two_pow_pos r
  obtain ⟨p, hpp⟩ : ∃ p, p = 2 ^ r := ⟨_, rfl⟩
  have hw1 : IntKind.u8.wrap (2 ^ r) = (p : Int) := by
    rw [IntKind.wrap_u8', show ((2 : Int) ^ r) = ((2 ^ r : Nat) : Int) by simp, ← hpp]; omega
  rw [← hpp] at hp hp0 hand
  have hor := u8_and_nat B p hB256 hp
  have hlt := hV.lt
  have hz64 : z < 8000 := by omega
  rw [hand] at hor
  cases hb : decide ((z : Int) ∈ S) with
  | false =>
    have hor2 : bits .and .u8 (B : Int) (p : Int) = 0 := by rw [hor, hb]; simp [bit]
    clear hor hb hand hV hV1 hB hr hpp
    go_enter Try.func15, Try.ntmps15
    go_wp2
    go_ret
    exact ⟨rfl, rfl⟩
  | true =>
    have hor2 : bits .and .u8 (B : Int) (p : Int) = (p : Int) := by rw [hor, hb]; simp [bit]
    have t1 : ((p : Int) != 0) = true := by simp; omega
    clear hor hb hand hV hV1 hB hr hpp
    go_enter Try.func15, Try.ntmps15
    go_wp2
    go_ret
    exact ⟨rfl, rfl⟩
theorem byteIn {w : World} {g m : Nat} {S : List Int} (hV : Vec w g 5 (byteCells (mbs m S))) : Lib.BytesIn w (some ⟨g, 0, none⟩) m ((mbs m S).map fun b : Nat => (b : Int)) := by
  refine Lib.BytesIn.of_cells fun i hi => ?_
  have e : (⟨g, 0, none⟩ : Addr).add i = ⟨g, i, none⟩ := by unfold Addr.add; split <;> simp_all
  rw [e, hV.cell (bytes_at hi)]
  simp [mbs_at m S i hi]
theorem bytesOf_inj {l k : List Nat} (hl : ∀ x ∈ l, x < 256) (hk : ∀ x ∈ k, x < 256) : (Lib.bytesOf (l.map fun b : Nat => (b : Int)) == Lib.bytesOf (k.map fun b : Nat => (b : Int))) = decide (l = k) := by
  rw [Bool.eq_iff_iff]
  simp only [beq_iff_eq, decide_eq_true_eq, Lib.bytesOf, List.map_map]
  constructor
  · intro h
    have h2 := congrArg (List.map UInt8.toNat) h
    simp only [List.map_map] at h2
    have e : ∀ q : List Nat, (∀ x ∈ q, x < 256) → q.map (UInt8.toNat ∘ ((fun n : Int => UInt8.ofNat n.toNat) ∘ fun b : Nat => (b : Int))) = q := fun q hq => by
      conv => rhs; rw [← List.map_id q]
      refine List.map_congr_left fun x hx => ?_
      have := hq x hx
      simp
      omega
    rw [e l hl, e k hk] at h2
    exact h2
  · rintro rfl; rfl
theorem mbs_lt {m : Nat} {S : List Int} : ∀ x ∈ mbs m S, x < 256 := by
  intro x hx
  obtain ⟨j, _, rfl⟩ := List.mem_map.1 hx
  exact mb_lt S j
set_option maxRecDepth 100000 in
set_option maxHeartbeats 2000000 in
theorem equals_any (g h n m : Nat) (S T : List Int) (w : World) (hS : Vec w g 5 (byteCells (mbs m S))) (hT : Vec w h 5 (byteCells (mbs m T))) (hm : m = (n + 7) / 8) (hS2 : ∀ x ∈ S, 0 ≤ x ∧ x < n) (hT2 : ∀ x ∈ T, 0 ≤ x ∧ x < n) :
    Calls Try.prog 16 #[.agg #[.slice (some ⟨g, 0, none⟩) m m], .agg #[.slice (some ⟨h, 0, none⟩) m m]] w fun e w' => e = .returned (.bool (sameB n S T)) ∧ w.grownBy w' none := by
  have hS1 := (hS.grown (World.grownBy_alloc w (.cells #[.slice (some ⟨g, 0, none⟩) m m] 39) none) (by simp)).grown (World.grownBy_alloc _ (.cells #[.slice (some ⟨h, 0, none⟩) m m] 39) none) (by simp)
  have hT1 := (hT.grown (World.grownBy_alloc w (.cells #[.slice (some ⟨g, 0, none⟩) m m] 39) none) (by simp)).grown (World.grownBy_alloc _ (.cells #[.slice (some ⟨h, 0, none⟩) m m] 39) none) (by simp)
  have C := Try.bytes_Equal_all (some ⟨g, 0, none⟩) (some ⟨h, 0, none⟩) m m m m _ _ _ (by simp [mbs_len]) (by simp [mbs_len]) (byteIn hS1) (byteIn hT1)
  rw [bytesOf_inj mbs_lt mbs_lt, hm, same_bytes n S T hS2 hT2, ← hm] at C
  have C := Lib.hid C
  clear hS hT hS1 hT1 hm hS2 hT2
  go_enter Try.func16, Try.ntmps16
  go_wp2_with (go_at_call 18; refine C.out.mono ?_; rintro e w' ⟨rfl, rfl⟩)
  go_ret
  exact ⟨rfl, grown_trans (World.grownBy_alloc _ _ _) (World.grownBy_alloc _ _ _)⟩
end Go.Proofs.Ytibkicllbfheiaa
