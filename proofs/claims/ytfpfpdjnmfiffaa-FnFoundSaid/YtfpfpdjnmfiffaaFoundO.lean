/- A slice of mappings among the arguments, opened. -/
import Derived.Test.YtfpfpdjnmfiffaaFoundI
import Derived.Deep.Slices
namespace Go.Proofs.Ytfpfpdjnmfiffaa
open Go.ChangeShapes Go.WideShapes Go.RowKit
set_option linter.unusedVariables false
set_option linter.unusedSimpArgs false

instance : Inhabited Mp := ⟨⟨0, 0, 0, 0, 0, 0⟩⟩
theorem cells29 : Try.prog.cellsOf 29 = 6 := by kernel_rfl
theorem cells3 : Try.prog.cellsOf 3 = 1 := by kernel_rfl
theorem mp_open {H : Type} {enc : TypeId × Value → H} {w : World} {base : Nat} {spare : Nat → Bool} {held : Bool} {n : Nat} {cs : List Value} {x : DataW H × List MemPlace} (h : DataW.trod enc Try.prog w base spare held n 29 cs = some x) : ∃ m : Mp, cs = m.icells := by
  obtain ⟨xs, k, _, _, hcl, hxl, hf⟩ := DataW.trod_struct Try.underlying29 h
  rw [cells29] at hcl
  match cs, hcl with
  | [v0, v1, v2, v3, v4, v5], _ =>
    match xs, hxl with
    | [z0, z1, z2, z3, z4, z5], _ =>
      have g0 := hf 0 _ rfl
      have g1 := hf 1 _ rfl
      have g2 := hf 2 _ rfl
      have g3 := hf 3 _ rfl
      have g4 := hf 4 _ rfl
      have g5 := hf 5 _ rfl
      simp [cells3] at g0 g1 g2 g3 g4 g5
      obtain ⟨a0, e0, _⟩ := DataW.trod_int Try.underlying3 g0
      obtain ⟨a1, e1, _⟩ := DataW.trod_int Try.underlying3 g1
      obtain ⟨a2, e2, _⟩ := DataW.trod_int Try.underlying3 g2
      obtain ⟨a3, e3, _⟩ := DataW.trod_int Try.underlying3 g3
      obtain ⟨a4, e4, _⟩ := DataW.trod_int Try.underlying3 g4
      obtain ⟨a5, e5, _⟩ := DataW.trod_int Try.underlying3 g5
      simp at e0 e1 e2 e3 e4 e5
      subst e0 e1 e2 e3 e4 e5
      exact ⟨⟨a0, a1, a2, a3, a4, a5⟩, rfl⟩
theorem maps_open {H : Type} {enc : TypeId × Value → H} {w : World} {base : Nat} {spare : Nat → Bool} {held : Bool} {fuel : Nat} {a : Option Addr} {n cap : Nat} {x : DataW H × List MemPlace} (h : DataW.trod enc Try.prog w base spare held fuel 27 [.slice a n cap] = some x) : ∃ l, Maps w a n l ∧ n ≤ maxLen := by
  rcases Deep.open_slice Try.underlying27 h with ⟨hcs, _⟩ | ⟨y, len, c, m, k, D, Pl, hcs, _, hl, hm, hmm, _, hx⟩
  · simp at hcs
    obtain ⟨rfl, rfl, rfl⟩ := hcs
    exact ⟨[], ⟨rfl, .inl rfl⟩, Nat.zero_le _⟩
  · simp at hcs
    obtain ⟨rfl, rfl, rfl⟩ := hcs
    have hlm : n ≤ m := by rw [hmm]; split <;> omega
    obtain ⟨q, hq⟩ := Deep.choose_lt (α := Mp) (n := m) (p := fun i e => ∀ j u, e.icells[j]? = some u → w.cell? (y.add (i * 6 + j)) = some u) (fun i hi => by
      obtain ⟨cs', h1, h2⟩ := hx i hi
      rw [cells29] at h1
      obtain ⟨_, hlen, hcell⟩ := World.cells?_some h1
      obtain ⟨e, rfl⟩ := mp_open h2
      refine ⟨e, fun j u hu => ?_⟩
      have hj : j < 6 := (List.getElem?_eq_some_iff.1 hu).1
      have h3 := hcell j hj
      rw [Deep.add_add] at h3
      rw [h3, hu])
    refine ⟨(List.range n).map q, ⟨by simp, ?_⟩, by omega⟩
    by_cases h0 : n = 0
    · left; subst h0; rfl
    · right
      obtain ⟨b, off, spot⟩ := y
      have h1 := hq 0 (by omega) 0 _ rfl
      have hspot : spot = none := by simpa [Addr.add] using World.cell?_spot h1
      subst hspot
      refine ⟨b, off, rfl, World.block_lt_of_cell? w _ (by simpa [Addr.add] using h1), fun i hi j u hu => ?_⟩
      have hi' : i < n := by simpa using hi
      have h2 := hq i (by omega) j u (by simpa using hu)
      have e : (⟨b, off, none⟩ : Addr).add (i * 6 + j) = ⟨b, off + i * 6 + j, none⟩ := by unfold Addr.add; split <;> simp_all <;> omega
      rwa [e] at h2
end Go.Proofs.Ytfpfpdjnmfiffaa
