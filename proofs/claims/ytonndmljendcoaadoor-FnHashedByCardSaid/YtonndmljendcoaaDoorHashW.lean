/- xxhash's digest: Write. -/
import Derived.Test.YtonndmljendcoaaDoorHashB
import Derived.Laws.CopyOwn
namespace Go.Proofs.YtonndmljendcoaaDoor
open Go.RowKit
set_option linter.unusedVariables false
set_option linter.unusedSimpArgs false
theorem only_setRow (w : World) (g : Nat) (cs : Array Value) : Only g w (w.setRow g cs) :=
  ⟨rfl, rfl, rfl, by simp [World.setRow], fun k _ hk => setRow_other w g k cs hk⟩
/-- Bytes copied into the digest's 32 places. -/
theorem dig_splice (v : V4) (t : Nat) (mem : List UInt8) (n k : Nat) (cs : List UInt8) (hm : mem.length = 32) (hk : k + cs.length ≤ 32) : splice (digCells v t mem n) (5 + k) (byteCells cs) = digCells v t (splice mem k cs) n := by
  have h1 : (byteCells cs).length = cs.length := by simp [byteCells]
  have e1 : (digCells v t mem n).take (5 + k) = [.int .u64 (v.a.toNat : Int), .int .u64 (v.b.toNat : Int), .int .u64 (v.c.toNat : Int), .int .u64 (v.d.toNat : Int), .int .u64 (t : Int)] ++ (byteCells mem).take k := by
    rw [Nat.add_comm]
    show _ :: _ :: _ :: _ :: _ :: (byteCells mem ++ [Value.int .i64 (n : Int)]).take k = _
    rw [List.take_append_of_le_length (by simp [byteCells]; omega)]
    rfl
  have e2 : (digCells v t mem n).drop (5 + k + cs.length) = (byteCells mem).drop (k + cs.length) ++ [.int .i64 (n : Int)] := by
    rw [show 5 + k + cs.length = (k + cs.length) + 5 by omega]
    show (byteCells mem ++ [Value.int .i64 (n : Int)]).drop (k + cs.length) = _
    rw [List.drop_append_of_le_length (by simp [byteCells]; omega)]
  unfold splice
  rw [h1, e1, e2]
  simp [digCells, byteCells, List.map_take, List.map_drop]
theorem splice_len (mem cs : List UInt8) (k : Nat) (hm : mem.length = 32) (hk : k + cs.length ≤ 32) : (splice mem k cs).length = 32 := by rw [length_splice _ _ _ (by omega)]; exact hm
theorem one_bytes (cs : List UInt8) : ∀ v ∈ byteCells cs, v.oneCell' = true := by
  intro v hv
  simp only [byteCells, List.mem_map] at hv
  obtain ⟨b, _, rfl⟩ := hv
  rfl
theorem bytes_at {w : World} {g o : Nat} {l : List UInt8} (h : Bytes w g o l) (m : Nat) : ∀ j v, (byteCells (l.take m))[j]? = some v → w.cell? ((⟨g, o, none⟩ : Addr).add j) = some v := by
  intro j v hv
  simp only [byteCells, List.getElem?_map, Option.map_eq_some_iff] at hv
  obtain ⟨b, hb, rfl⟩ := hv
  rw [List.getElem?_take] at hb
  split at hb
  · obtain ⟨h1, h2⟩ := List.getElem?_eq_some_iff.1 hb
    have := h j h1
    rw [h2] at this
    rw [← this]
    simp only [Addr.add]
    split
    · rename_i h0; subst h0; rfl
    · rfl
  · cases hb
/-- 'copy(d.mem[k:], b)' as a step of a region that draws its order. -/
theorem step_copy_dig {ops : Array Oper} {o : Oper} {a : Act} {w : World} {K : Act → World → Prop} {Q : Exit → Act → World → Prop} {E : Prop} (hgd : o.guard = none) (d s : Operand)
    (ho : o.op = .call { callee := .builtin .copy, args := #[d, s], argTypes := #[22, 22] }) (B k : Nat) (v : V4) (t : Nat) (mem : List UInt8) (n : Nat) (hR : Raw w B v t mem n) (hk : k ≤ 32)
    (dp sp : Option Addr) (dCap m sCap : Nat) (hd : a.eval d = .slice dp (32 - k) dCap) (hs : a.eval s = .slice sp m sCap) (l : List UInt8) (hl : l.length = m)
    (hdp : k < 32 → dp = some ⟨B, 5 + k, none⟩) (hsp : 0 < m → ∃ g off, sp = some ⟨g, off, none⟩ ∧ Bytes w g off l)
    (h : ∀ w', Raw w' B v t (splice mem k (l.take (32 - k))) n → Only B w w' → K (a.put o.dst (goInt (Nat.min m (32 - k) : Nat))) w') :
    if Region.wanted o (yielded ops a.tmps) = true then Oper.wp Tryd.prog o a w K Q else E := by
  have hw : Region.wanted o (yielded ops a.tmps) = true := by simp [Region.wanted, hgd]
  have hn : (byteCells (l.take (32 - k))).length = Nat.min m (32 - k) := by simp [byteCells, hl, Nat.min_comm]
  have hlt : (l.take (32 - k)).length = Nat.min m (32 - k) := by simp [hl, Nat.min_comm]
  have hle : k + (l.take (32 - k)).length ≤ 32 := by have : Nat.min m (32 - k) ≤ 32 - k := Nat.min_le_right _ _; omega
  have hsz : (Tryd.prog.info? 5).map (·.size) = some 1 := by kernel_rfl
  rw [if_pos hw]
  by_cases h0 : Nat.min m (32 - k) = 0
  · have hrun := run_copy_none (P := Tryd.prog) w 22 22 o.type 5 dp sp (32 - k) dCap m sCap Tryd.underlying22 hsz (by simpa using h0)
    have e0 : l.take (32 - k) = [] := List.eq_nil_of_length_eq_zero (by omega)
    have := h w (by rw [e0]; simpa [splice] using hR) (Only.refl _ _)
    rw [h0] at this
    unfold Oper.wp
    simp [execOp, ho, resolve, invoke, builtin, hd, hs, hrun, Result.andThen]
    exact this
  · have hmp : 0 < m := by rcases Nat.eq_zero_or_pos m with e | e; · subst e; simp at h0
                           · exact e
    have hkp : k < 32 := by
      rcases Nat.lt_or_ge k 32 with e | e
      · exact e
      · rw [show 32 - k = 0 by omega] at h0; simp at h0
    obtain ⟨g, off, rfl, hby⟩ := hsp hmp
    obtain rfl := hdp hkp
    have hrun := run_copy_row (P := Tryd.prog) w 22 22 o.type 5 B (5 + k) (32 - k) dCap ⟨g, off, none⟩ m sCap (digCells v t mem n).toArray 52 (byteCells (l.take (32 - k))) Tryd.underlying22 hsz hR.2 hn (bytes_at hby _) (by simp [digCells, byteCells, hR.1, hl]; omega) (one_bytes _)
    have := h _ ⟨splice_len _ _ _ hR.1 hle, show Vec _ _ _ _ by rw [← dig_splice _ _ _ _ _ _ hR.1 hle]; unfold Vec; exact by simpa [splice] using setRow_heap w B _ _ 52 _ hR.2⟩ (only_setRow w B _)
    unfold Oper.wp
    simp [execOp, ho, resolve, invoke, builtin, hd, hs, hrun, Result.andThen]
    rw [← hn] at this
    exact this
end Go.Proofs.YtonndmljendcoaaDoor
