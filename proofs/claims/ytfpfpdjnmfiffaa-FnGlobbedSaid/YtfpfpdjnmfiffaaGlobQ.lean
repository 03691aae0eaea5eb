/- What impl.Globbed tells. -/
import Derived.Test.YtfpfpdjnmfiffaaGlobP
import Derived.Deep.Onto
namespace Go.Proofs.Ytfpfpdjnmfiffaa
open Go.RowKit
set_option linter.unusedVariables false

theorem infoPart : (Try.prog.info? 48).map (fun i => (i.zero, i.size, i.bytes)) = some (some (.agg #[.string ByteArray.empty, .int .i64 0]), 2, 24) := by kernel_rfl
def pcells (l : List (ByteArray × Int)) : List Value := l.flatMap fun x => [.string x.1, .int .i64 x.2]
theorem pcells_snoc (l : List (ByteArray × Int)) (p : ByteArray) (k : Int) : pcells l ++ [.string p, .int .i64 k] = pcells (l ++ [(p, k)]) := by simp [pcells]
theorem gcells_at : ∀ (l : List (ByteArray × Int)) (k : Nat) (hk : k < l.length), (gcells l)[k * 2]? = some (.string l[k].1) ∧ (gcells l)[k * 2 + 1]? = some (.int .u8 l[k].2)
  | [], k, h => by simp at h
  | x :: r, 0, _ => by simp [gcells]
  | x :: r, k + 1, h => by
    have ih := gcells_at r k (by simpa using h)
    have e1 : gcells (x :: r) = .string x.1 :: .int .u8 x.2 :: gcells r := rfl
    rw [e1, show (k + 1) * 2 = k * 2 + 1 + 1 by omega]
    simpa using ih
theorem pcells_at : ∀ (l : List (ByteArray × Int)) (k : Nat) (hk : k < l.length), (pcells l)[k * 2]? = some (.string l[k].1) ∧ (pcells l)[k * 2 + 1]? = some (.int .i64 l[k].2)
  | [], k, h => by simp at h
  | x :: r, 0, _ => by simp [pcells]
  | x :: r, k + 1, h => by
    have ih := pcells_at r k (by simpa using h)
    have e1 : pcells (x :: r) = .string x.1 :: .int .i64 x.2 :: pcells r := rfl
    rw [e1, show (k + 1) * 2 = k * 2 + 1 + 1 by omega]
    simpa using ih
theorem row_cell {w : World} {B E g n cap : Nat} {xs : List Value} (h : w.ownsRow B E 2 (.slice (some ⟨g, 0, none⟩) n cap) n xs) {j : Nat} {u : Value} (hj : xs[j]? = some u) : w.cell? ⟨g, j, none⟩ = some u := by
  have := h.cells (g := g) rfl j u hj
  have e : (⟨g, 0, none⟩ : Addr).add j = ⟨g, j, none⟩ := by unfold Addr.add; split <;> simp_all
  rwa [e] at this

theorem two_at (w : World) (B : Nat) (a b : Value) (t : TypeId) (h : w.heap.size = B) : ∀ j u, ([a, b] : List Value)[j]? = some u → (w.alloc (.cells #[a, b] t)).cell? ((⟨B, 0, none⟩ : Addr).add j) = some u := by
  subst h
  exact two_new w a b t

set_option maxRecDepth 100000 in
set_option maxHeartbeats 4000000 in
theorem globbed_any (ps : List ByteArray) (l : List (ByteArray × Int)) (hl : marked ps = l) (hll : l.length = ps.length) (s : ByteArray) (w : World) (h : Left ps [] ps s) (hs : s.size ≤ 10000) (hn : ps.length ≤ 10000) (hn0 : 0 < ps.length) (hk01 : ∀ x ∈ l, 0 ≤ x.2 ∧ x.2 ≤ 1) :
    Calls Try.prog 17 #[.string s] w (RetSl w.heap.size 48 w ps.length (pcells l)) := by
  obtain ⟨i0, hi, hz0, hz1, hz2⟩ := info_parts infoPart
  have CP := (parse_any ps s w h hs hn).mono fun e w' h => RetOwn.sl hn0 h
  rw [hl] at CP
  obtain ⟨n, hnl⟩ : ∃ n, n = ps.length := ⟨_, rfl⟩
  rw [← hnl] at CP hn hn0 hll ⊢
  have HL := Lib.hid hll
  have HK := Lib.hid hk01
  clear h hs hnl hl hll hk01
  go_enter Try.func17, Try.ntmps17
  go_wp2_with (go_at_call 32; refine CP.mono ?_; rintro e w1 ⟨g, cap, rfl, hown, hg, hb1⟩)
  have HO := Lib.hid hown
  clear hown CP
  go_loopw [2, 8] (fun v i wr => ∃ (k : Nat), k ≤ n ∧ i = .int .i64 k ∧ Hid (wr.ownsRow w1.heap.size 48 2 v k (pcells (l.take k))) ∧ Below w1.heap.size w1 wr) (fun _ i _ => n - (intOf i).toNat)
  case atStart => exact ⟨0, Nat.zero_le _, rfl, World.ownsRow_nil _ _ _ _, Below.refl _ _⟩
  case round =>
    obtain ⟨k, hk, rfl, HV, hb⟩ := hrel
    by_cases hkn : k < n
    · have hkl : k < l.length := by rw [HL.out]; exact hkn
      obtain ⟨p, hp⟩ : ∃ p, p = l[k].1 := ⟨_, rfl⟩
      obtain ⟨z, hz⟩ : ∃ z, z = l[k].2 := ⟨_, rfl⟩
      obtain ⟨hz3, hz4⟩ : 0 ≤ z ∧ z ≤ 1 := by rw [hz]; exact HK.out _ (List.getElem_mem hkl)
      obtain ⟨g1, g2⟩ := gcells_at l k hkl
      rw [← hp] at g1
      rw [← hz] at g2
      have c1 := (hb.cell (p := ⟨g, k * 2, none⟩) hg).trans (row_cell HO.out g1)
      have c2 := (hb.cell (p := ⟨g, k * 2 + 1, none⟩) hg).trans (row_cell HO.out g2)
      have HS := Lib.hid (show pcells (l.take k) ++ [.string p, .int .i64 z] = pcells (l.take (k + 1)) by rw [pcells_snoc, List.take_succ_eq_append_getElem hkl, hp, hz])
      clear g1 g2 hp hz hkl
      go_wp2_with (at_builtin; refine wpList_append_own _ rfl _ _ 44 rfl w1.heap.size 48 i0 (.agg #[.string ByteArray.empty, .int .i64 0]) 2 24 Try.underlying44 hi hz0 hz1 hz2 rfl (by decide) _ _ _ rfl ((HV.out.alloc _).alloc _) ⟨wr.heap.size + 1, 0, none⟩ 1 1 [.string p, .int .i64 z] rfl rfl (two_at _ _ _ _ _ (by simp)) (by simp [Value.oneCell']) (by unfold maxLen; omega) (by omega) (by have := hb.size; simp; omega) ?_)
      intro v' w2 hown hgrow _
      have HO2 := Lib.hid hown
      have hb2 := ((hb.alloc hb.size _).alloc (by have := hb.size; simp; omega) _).grown hgrow (by have := hb.size; simp; omega) (fun k hk => (HV.out.lt k hk).1)
      clear hown hgrow
      go_wp2
      go_roundw
      case rel =>
        refine ⟨k + 1, by omega, by simp, ?_, hb2⟩
        have h1 := HO2.out
        rw [HS.out] at h1
        exact h1
      case measure => simp [intOf]; omega
    · obtain rfl : k = n := by omega
      have H1 := HV.out
      rw [List.take_of_length_le (by rw [HL.out]; exact Nat.le_refl _)] at H1
      have HH := RetOwn.sl hn0 (B := w1.heap.size) (w := w1) ⟨_, rfl, H1, hb⟩
      obtain ⟨g3, cap3, he, ho3, hlt3, _⟩ := HH
      injection he with he
      subst he
      have HB := Lib.hid (hb1.trans (hb.mono hb1.size))
      have HO3 := Lib.hid (World.ownsRow.mono ho3 hb1.size)
      clear H1 ho3 hb1 hb
      go_wp2
      go_ret
      exact ⟨g3, cap3, rfl, HO3.out, hlt3, HB.out⟩
end Go.Proofs.Ytfpfpdjnmfiffaa
