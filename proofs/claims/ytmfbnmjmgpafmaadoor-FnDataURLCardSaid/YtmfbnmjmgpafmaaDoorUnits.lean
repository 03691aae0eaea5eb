/- What spec.Units tells: the text's UTF-16 units, and whether it is UTF-8. -/
import Derived.Test.YtmfbnmjmgpafmaaDoorUnitsP
import Derived.Test.YtmfbnmjmgpafmaaDoorRows
import Derived.WalkKit
import Derived.WalkSpells
import Derived.WalkLawsBesides
import Derived.LoopTactic
import Derived.Lib.Hide
import Derived.Lib.Strings
import Derived.Maps.AppendAt
import Derived.Laws.BitsAllLaws
import Derived.Lib.OthersKept
import Derived.OneCell
import Derived.WalkSmall
namespace Go.Proofs.YtmfbnmjmgpafmaaDoor
open Go.RowKit
set_option linter.unusedVariables false
set_option linter.unusedSimpArgs false
theorem units_and (a : Nat) (ha : a < 2147483648) : bits .and .i32 (a : Int) 1023 = ((a % 1024 : Nat) : Int) := by
  have hx : a &&& 1023 = a % 1024 := nat_mask10 a
  have h1 := ofInt_u32 a (by omega)
  have h2 := ofInt_u32 1023 (by omega)
  show IntKind.i32.wrap ((BitVec.ofInt 32 (a : Int) &&& BitVec.ofInt 32 ((1023 : Nat) : Int)).toNat : Int) = _
  rw [BitVec.toNat_and, h1, h2, IntKind.wrap_i32, hx]
  omega
theorem two_at (w : World) (B : Nat) (a b : Value) (t : TypeId) (h : w.heap.size = B) : ∀ j u, ([a, b] : List Value)[j]? = some u → (w.alloc (.cells #[a, b] t)).cell? ((⟨B, 0, none⟩ : Addr).add j) = some u := by
  subst h
  intro j u hj
  match j, hj with
  | 0, hj => simp at hj; subst hj; simp [Addr.add]
  | 1, hj => simp at hj; subst hj; simp [Addr.add]
theorem one_at' (w : World) (B : Nat) (a : Value) (t : TypeId) (h : w.heap.size = B) : ∀ j u, ([a] : List Value)[j]? = some u → (w.alloc (.cells #[a] t)).cell? ((⟨B, 0, none⟩ : Addr).add j) = some u := by
  subst h
  exact cell_one_new w a t
/-- Behind an append the iterator stands where it stood. -/
theorem rel_grow {w W w2 : World} {v : Value} {n : Nat} {xs : List Value} {o o1 : Obj} {E : TypeId} (hO : W.ownsRow (w.heap.size + 1) E 1 v n xs) (hB : Below w.heap.size w W) (hI : W.heap[w.heap.size]? = some o1) (hg : (W.alloc o).grownBy w2 v.ownBlock) :
    Below w.heap.size w w2 ∧ w2.heap[w.heap.size]? = some o1 := by
  have hlt := lt_of_block hI
  refine ⟨(hB.alloc (by omega) _).grown hg (by simp; omega) (fun k hk => by have := (hO.lt k hk).1; omega), ?_⟩
  rw [hg.block w.heap.size (by simp; omega) (fun h => by have := (hO.lt w.heap.size h.symm).1; omega)]
  exact (Below.heap_alloc W o _ hlt).trans hI
theorem iter_at {w : World} {k : Nat} {s : ByteArray} {p : Nat} (h : w.heap[k]? = some (.stringIter s p)) : w.iterPos k = p := by simp only [World.iterPos, h]
def cellsOf (l : List Nat) : List Value := l.map fun n : Nat => Value.int .u16 (n : Int)
/-- What spec.Units tells of a text. -/
def UnitsTold (s : ByteArray) (w : World) (e : Ending) (w' : World) : Prop :=
  Below w.heap.size w w' ∧ ((unitsFrom s 0 = none ∧ e = .returned (.tuple #[.slice none 0 0, .bool false])) ∨
    ∃ l v, unitsFrom s 0 = some l ∧ l.length ≤ 2 * s.size ∧ e = .returned (.tuple #[v, .bool true]) ∧ w'.ownsRow (w.heap.size + 1) 34 1 v l.length (cellsOf l))
theorem infoU16 : (Tryd.prog.info? 34).map (fun i => (i.zero, i.size, i.bytes)) = some (some (.int .u16 0), 1, 2) := by kernel_rfl
set_option maxRecDepth 100000 in
set_option maxHeartbeats 4000000 in
theorem units_any (s : ByteArray) (w : World) (hs : s.size ≤ 2147483647) : Calls Tryd.prog 4 #[.string s] w (UnitsTold s w) := by
  obtain ⟨i0, hi, hz0, hz1, hz2⟩ := info_parts infoU16
  go_enter Tryd.func4, Tryd.ntmps4
  go_wp2
  go_loopw [4] (fun v wr => ∃ (pos : Nat) (acc : List Nat), pos ≤ s.size ∧ wr.heap[w.heap.size]? = some (.stringIter s pos) ∧ Hid (Gathered s acc pos) ∧ acc.length ≤ 2 * pos ∧ Hid (wr.ownsRow (w.heap.size + 1) 34 1 v acc.length (cellsOf acc)) ∧ Below w.heap.size w wr) (fun _ wr => s.size - wr.iterPos w.heap.size)
  case atStart => exact ⟨0, [], Nat.zero_le _, World.iter_heap w s 0, Lib.hid (gathered_start s), Nat.le_refl _, Lib.hid (World.ownsRow_nil _ _ _ _), (Below.refl _ w).alloc (Nat.le_refl _) _⟩
  case round =>
    obtain ⟨pos, acc, hp, hit, HG, hacc, HO, hb⟩ := hrel
    have hsz : w.heap.size < wr.heap.size := (Array.getElem?_eq_some_iff.1 hit).1
    by_cases hlt : pos < s.size
    · obtain ⟨r, hr⟩ : ∃ r, r = (Utf8.decode s pos).1 := ⟨_, rfl⟩
      obtain ⟨d, hd⟩ : ∃ d, d = (Utf8.decode s pos).2 := ⟨_, rfl⟩
      have hd4 := decode_wide s pos
      have hr4 := decode_top s pos
      have hnx : ∀ ty, (Instr.next (.pointer (some ⟨w.heap.size, 0, none⟩)) true ty).run Tryd.prog wr = .ok (.tuple #[.bool true, .int .i64 pos, .int .i32 r]) (wr.iterAt w.heap.size s (pos + d)) := fun ty => by
        rw [hr, hd]; exact Lib.run_next_any_at wr w.heap.size s pos ty hit hlt
      have hit2 := Lib.iterAt_heap wr w.heap.size s pos (pos + d) hit
      have hb2 := Lib.below_iterAt hb (k := w.heap.size) (Nat.le_refl _) s (pos + d)
      have hs2 : w.heap.size < (wr.iterAt w.heap.size s (pos + d)).heap.size := by rw [Lib.iterAt_size]; exact hsz
      have hO2 := ownsRow_iterAt HO.out (k := w.heap.size) (by omega) s (pos + d)
      generalize wr.iterAt w.heap.size s (pos + d) = W at *
      have hpp : wr.iterPos w.heap.size = pos := by simp only [World.iterPos, hit]
      have HI := Lib.hid hit2
      have HB := Lib.hid hb2
      have HO2 := Lib.hid hO2
      clear hit hit2 hb2 hb HO hO2
      have hp2 := decode_in s pos hlt
      rw [← hd] at hd4 hp2
      rw [← hr] at hr4
      by_cases hf : r = 65533
      · subst hf
        by_cases hsh : s.size < pos + 3
        · have t1 : decide ((s.size : Int) < (pos : Int) + 3) = true := by simp; omega
          have HF := Lib.hid (HG.out.bad hlt hr.symm (by simp [badAt, hsh]))
          clear hr hd HG hsh
          go_wp2_with fail
          go_ret2
          exact ⟨HB.out, .inl ⟨HF.out, rfl⟩⟩
        · have t1 : decide ((s.size : Int) < (pos : Int) + 3) = false := by simp; omega
          have hsh3 : pos + 3 ≤ s.size := by omega
          cases hq : ((s.extract pos (pos + 3)).toList == [239, 191, 189]) with
          | false =>
            have HF := Lib.hid (HG.out.bad hlt hr.symm (by simp only [badAt, hq]; simp))
            clear hr hd HG hsh
            go_wp2_with fail
            go_ret2
            exact ⟨HB.out, .inl ⟨HF.out, rfl⟩⟩
          | true =>
            have HN := Lib.hid (HG.out.step hlt (by rw [← hr]; simp only [badAt, hq]; simp; omega))
            rw [← hr, ← hd] at HN
            clear hr hd HG hsh
            go_wp2_with (at_builtin; refine wpList_append_own _ rfl _ _ 22 rfl (w.heap.size + 1) 34 i0 (.int .u16 0) 1 2 Tryd.underlying22 hi hz0 hz1 hz2 rfl (by decide) _ _ _ rfl (HO2.out.alloc _) ⟨W.heap.size, 0, none⟩ 1 1 [_] rfl rfl (one_at' _ _ _ _ (by simp)) (by simp [Value.oneCell']) (by unfold maxLen; omega) (by omega) (by simp; omega) ?_)
            intro v' w2 hown hgrow _
            obtain ⟨hb3, hi3⟩ := rel_grow HO2.out HB.out HI.out hgrow
            have HO3 : Hid (w2.ownsRow (w.heap.size + 1) 34 1 v' (acc ++ unitsOf 65533).length (cellsOf (acc ++ unitsOf 65533))) := by
              unfold Hid
              rw [unitsOf_one (by omega)]
              have e : cellsOf (acc ++ [65533]) = cellsOf acc ++ [Value.int IntKind.u16 65533] := by
                unfold cellsOf
                rw [List.map_append]
                rfl
              rw [e, List.length_append]
              exact hown
            have hlen : (acc ++ unitsOf 65533).length ≤ 2 * (pos + d) := by rw [unitsOf_one (by omega), List.length_append]; simp; omega
            have HB3 := Lib.hid hb3
            have HI3 := Lib.hid hi3
            clear hown hgrow hb3 hi3 HO2 HB HI
            go_wp2
            go_roundw
            case rel => exact ⟨pos + d, _, hp2, HI3.out, HN, hlen, HO3, HB3.out⟩
            case measure => rw [hpp, iter_at HI3.out]; omega
      · have t1 : ((r : Int) == 65533) = false := by simp; omega
        have HN := Lib.hid (HG.out.step hlt (by rw [← hr]; exact fun h => hf h.1))
        rw [← hr, ← hd] at HN
        clear hr hd hf HG
        by_cases hbig : 65535 < r
        · have t2 : decide ((65535 : Int) < (r : Int)) = true := by simp; omega
          obtain ⟨m, hm⟩ : ∃ m, m = r - 65536 := ⟨_, rfl⟩
          have ha : bits .and .i32 ((r : Int) - 65536) 1023 = ((m % 1024 : Nat) : Int) := by rw [show ((r : Int) - 65536) = (m : Int) by omega]; exact units_and m (by omega)
          have hm2 : m < 1048576 := by omega
          have hm3 : m % 1024 < 1024 := by omega
          have HM := Lib.hid hm
          clear hm
          go_wp2_with (at_builtin; refine wpList_append_own _ rfl _ _ 22 rfl (w.heap.size + 1) 34 i0 (.int .u16 0) 1 2 Tryd.underlying22 hi hz0 hz1 hz2 rfl (by decide) _ _ _ rfl (HO2.out.alloc _) ⟨W.heap.size, 0, none⟩ 2 2 [_, _] rfl rfl (two_at _ _ _ _ _ (by simp)) (by simp [Value.oneCell']) (by unfold maxLen; omega) (by omega) (by simp; omega) ?_)
          intro v' w2 hown hgrow _
          obtain ⟨hb3, hi3⟩ := rel_grow HO2.out HB.out HI.out hgrow
          have hm := HM.out
          have HO3 : Hid (w2.ownsRow (w.heap.size + 1) 34 1 v' (acc ++ unitsOf r).length (cellsOf (acc ++ unitsOf r))) := by
            unfold Hid
            rw [unitsOf_two (by omega), ← hm]
            have e : cellsOf (acc ++ [55296 + m / 1024, 56320 + m % 1024]) = cellsOf acc ++ [Value.int IntKind.u16 (55296 + ((r : Int) - 65536) / 1024), Value.int IntKind.u16 (56320 + (m : Int) % 1024)] := by
              unfold cellsOf
              rw [List.map_append]
              congr 1
              simp only [List.map_cons, List.map_nil]
              rw [show ((55296 + m / 1024 : Nat) : Int) = 55296 + ((r : Int) - 65536) / 1024 by omega, show ((56320 + m % 1024 : Nat) : Int) = 56320 + (m : Int) % 1024 by omega]
            rw [e, List.length_append]
            exact hown
          have hlen : (acc ++ unitsOf r).length ≤ 2 * (pos + d) := by rw [unitsOf_two (by omega), List.length_append]; simp; omega
          have HB3 := Lib.hid hb3
          have HI3 := Lib.hid hi3
          clear hown hgrow hb3 hi3 HO2 HB HI hm HM ha hm2 hm3
          go_wp2
          go_roundw
          case rel => exact ⟨pos + d, _, hp2, HI3.out, HN, hlen, HO3, HB3.out⟩
          case measure => rw [hpp, iter_at HI3.out]; omega
        · have t2 : decide ((65535 : Int) < (r : Int)) = false := by simp; omega
          go_wp2_with (at_builtin; refine wpList_append_own _ rfl _ _ 22 rfl (w.heap.size + 1) 34 i0 (.int .u16 0) 1 2 Tryd.underlying22 hi hz0 hz1 hz2 rfl (by decide) _ _ _ rfl (HO2.out.alloc _) ⟨W.heap.size, 0, none⟩ 1 1 [_] rfl rfl (one_at' _ _ _ _ (by simp)) (by simp [Value.oneCell']) (by unfold maxLen; omega) (by omega) (by simp; omega) ?_)
          intro v' w2 hown hgrow _
          obtain ⟨hb3, hi3⟩ := rel_grow HO2.out HB.out HI.out hgrow
          have HO3 : Hid (w2.ownsRow (w.heap.size + 1) 34 1 v' (acc ++ unitsOf r).length (cellsOf (acc ++ unitsOf r))) := by
            unfold Hid
            rw [unitsOf_one (by omega)]
            have e : cellsOf (acc ++ [r]) = cellsOf acc ++ [Value.int IntKind.u16 (r : Int)] := by
              unfold cellsOf
              rw [List.map_append]
              rfl
            rw [e, List.length_append]
            exact hown
          have hlen : (acc ++ unitsOf r).length ≤ 2 * (pos + d) := by rw [unitsOf_one (by omega), List.length_append]; simp; omega
          have HB3 := Lib.hid hb3
          have HI3 := Lib.hid hi3
          clear hown hgrow hb3 hi3 HO2 HB HI
          go_wp2
          go_roundw
          case rel => exact ⟨pos + d, _, hp2, HI3.out, HN, hlen, HO3, HB3.out⟩
          case measure => rw [hpp, iter_at HI3.out]; omega
    · have hnx : ∀ ty, (Instr.next (.pointer (some ⟨w.heap.size, 0, none⟩)) true ty).run Tryd.prog wr = _ := fun ty => Lib.run_next_end_at wr w.heap.size s pos ty hit hlt
      have HF := Lib.hid (HG.out.all hlt)
      have HB := Lib.hid hb
      clear HG hb hit
      go_wp2
      go_ret2
      exact ⟨HB.out, .inr ⟨_, _, HF.out, by omega, rfl, HO.out⟩⟩
end Go.Proofs.YtmfbnmjmgpafmaaDoor
