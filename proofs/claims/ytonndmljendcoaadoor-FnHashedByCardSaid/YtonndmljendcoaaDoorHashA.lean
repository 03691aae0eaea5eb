/- FnHashedBy holds for every list of steps: no condition (the card: the one variable read, prime1v, is tied to the program's text). -/
import Derived.Test.YtonndmljendcoaaDoorHashH
import Derived.Test.YtonndmljendcoaaDoorTie
import Derived.Test.YtonndmljendcoaaDoorCards
import Derived.SevenTiedAt
import Derived.ProofKit
import Derived.LaidMore
import Derived.OpenShut
import Derived.ShutString
import Derived.ChangeOld
import Derived.WalkSmall
import Derived.Stop.Joined
import Derived.Deep.SlicePairs
namespace Go.Proofs.YtonndmljendcoaaDoor.fnHashedBy
open Go Go.ChangeShapes Go.WideShapes Go.ChangeAt Go.RowKit
set_option linter.unusedVariables false
set_option linter.unusedSimpArgs false

theorem own : ownKnob Tryd.prog.godebug = none := by kernel_rfl
theorem laidOut : laidOutB Tryd.prog = true := by kernel_rfl
theorem gPrime : Tryd.prog.globalNamed "given.example/pub-stylewright/pub/esbuild/inner/xxhash.prime1v" = some 0 := by kernel_rfl
theorem tPrime : (Tryd.prog.globals[0]?).map (·.type) = some 23 := by kernel_rfl
theorem door_met (os : Os) (args : Array Value) : laidMetH Tryd.prog Rows.fnHashedByRow.laid ((World.doorLaid Tryd.prog 400 os).forCall (fun _ _ => 0) ⟨#[], args, []⟩).memory :=
  laidMetH_of_parts3 (fuel := 8) (laidMet_of_run' 8 (by kernel_rfl) (by kernel_rfl)) (by kernel_rfl) (by kernel_rfl)
/-- What the condition gives the walks: the prime's cell. -/
theorem of_laid {W : World} (h : laidMetH Tryd.prog Rows.fnHashedByRow.laid W) : W.cell? ⟨0, 0, none⟩ = some (.int .u64 11400714785074694791) := by
  rw [MakeChecks.laidMetH_plain _ _ _ (by kernel_rfl)] at h
  obtain ⟨ps, ⟨g0, t0, cs0, f0, p0, q0, hg0, ht0, hv0, hd0, _⟩, _, _⟩ := h
  obtain rfl := Option.some.inj (gPrime.symm.trans hg0)
  obtain rfl := Option.some.inj (tPrime.symm.trans ht0)
  obtain ⟨k, e1, e2, _⟩ := DataW.trod_int Tryd.underlying23 hd0
  have hk : k = 11400714785074694791 := by
    simp only [Rows.laid_given_example_pub_stylewright_pub_esbuild_inner_xxhash_prime1v, Prod.mk.injEq, DataW.lit.injEq, Lit.int.injEq] at e2
    exact e2.1.2.symm
  subst hk
  have := World.var?_cell hg0 hv0 0
  rw [Array.eq_one_of_toList e1] at this
  simpa using this
theorem slb_of {W : World} {a : Option Addr} {len cap : Nat} {zs : List Int} (hl : len ≤ cap) (hz : len ≤ zs.length) (hwz : ∀ z ∈ zs, (Lit.int .u8 z).wf = true) (hlt : ∀ b off, a = some ⟨b, off, none⟩ → b < W.heap.size)
    (h : len = 0 ∨ ∃ b off, a = some ⟨b, off, none⟩ ∧ ∀ j, j < zs.length → W.cell? ⟨b, off + j, none⟩ = some (.int .u8 (zs.getD j 0))) : SlB W a len cap ((zs.take len).map fun z => UInt8.ofNat z.toNat) := by
  refine ⟨by simp; omega, hl, h.imp id fun ⟨b, off, ha, hc⟩ => ⟨b, off, ha, hlt b off ha, fun j hj => ?_⟩⟩
  have hjl : j < zs.length := by simp at hj; omega
  rw [hc j hjl]
  have hw := bounds_u8 (hwz zs[j] (List.getElem_mem _))
  have e : zs.getD j 0 = zs[j] := by simp [List.getD, List.getElem?_eq_getElem hjl]
  rw [e]
  simp
  omega
instance : Inhabited Stp := ⟨⟨0, none, 0, 0, []⟩⟩
/-- A slice's reading gives its bytes. -/
theorem slb_open {H : Type} {enc : TypeId × Value → H} {W : World} {base : Nat} {spare : Nat → Bool} {held : Bool} {fuel : Nat} {v : Value} {x : DataW H × List MemPlace} (h : DataW.trod enc Tryd.prog W base spare held fuel 22 [v] = some x) :
    ∃ a n c l, v = .slice a n c ∧ SlB W a n c l ∧ (∀ g off, a = some ⟨g, off, none⟩ → 0 < n → g < W.heap.size) ∧ (a = none → c = 0) := by
  rcases open_ints Tryd.underlying22 Tryd.underlying5 (by kernel_rfl) h with ⟨hcs, hx⟩ | ⟨a, len, cap, zs, hcs, _, hl, hm, hz, hx, hcell, hwz⟩
  · simp at hcs
    subst hcs
    exact ⟨none, 0, 0, [], rfl, ⟨rfl, Nat.le_refl _, .inl rfl⟩, (fun g off e => by cases e), fun _ => rfl⟩
  · simp at hcs
    subst hcs
    have hzl : len ≤ zs.length := by rw [hz]; split <;> omega
    by_cases h0 : len = 0
    · subst h0
      exact ⟨some a, 0, cap, [], rfl, ⟨rfl, Nat.zero_le _, .inl rfl⟩, (fun g off e hp => by omega), fun e => by cases e⟩
    · obtain ⟨b, off, rfl, hc⟩ := ints_at hcell (by omega)
      have hb : b < W.heap.size := World.block_lt_of_cell? W _ (hc 0 (by omega))
      exact ⟨_, len, cap, _, rfl, slb_of hl hzl hwz (fun b' off' e => by cases e; exact hb) (.inr ⟨b, off, rfl, hc⟩), (fun g off' e _ => by cases e; exact hb), fun e => by cases e⟩
theorem cells30 : Tryd.prog.cellsOf 30 = 2 := by kernel_rfl
theorem law_of {H : Type} {enc : TypeId × Value → H} {W : World} {base : Nat} {spare : Nat → Bool} {held : Bool} {fuel : Nat} {a : Option Addr} {n c : Nat} {x : DataW H × List MemPlace} (h : DataW.trod enc Tryd.prog W base spare held fuel 26 [.slice a n c] = some x)
    (hp : W.cell? ⟨0, 0, none⟩ = some (.int .u64 11400714785074694791)) : Calls Tryd.prog 4 #[.slice a n c] W fun e w' => e = .returned (.bool true) ∧ Below W.heap.size W w' := by
  rcases Deep.open_slice_pairs Tryd.underlying26 Tryd.underlying30 cells30 rfl rfl (by kernel_rfl) (by kernel_rfl) h with ⟨hcs, _⟩ | ⟨y, len, cap, m, k, V0, V1, D0, D1, P0, P1, hcs, _, hl, hm, hmm, _, hx⟩
  · simp at hcs
    obtain ⟨rfl, rfl, rfl⟩ := hcs
    exact law_nil _ _ _
  · simp at hcs
    obtain ⟨rfl, rfl, rfl⟩ := hcs
    have hlm : n ≤ m := by rw [hmm]; split <;> omega
    by_cases h0 : n = 0
    · subst h0
      exact law_nil _ _ _
    · obtain ⟨q, hq⟩ := Deep.choose_lt (α := Stp) (n := n) (p := fun i z => W.cell? (y.add (i * 2)) = some (.int .i64 z.kd) ∧ W.cell? (y.add (i * 2 + 1)) = some (.slice z.a z.n z.c) ∧ z.fits W W.heap.size) (fun i hi => by
        obtain ⟨g0, g1, g2, g3⟩ := hx i (by omega)
        obtain ⟨kd, e0, _⟩ := DataW.trod_int Tryd.underlying3 g2
        obtain ⟨a1, n1, c1, l1, e1, hs, hlt, hnone⟩ := slb_open g3
        simp at e0
        rw [e0] at g0
        rw [e1] at g1
        exact ⟨⟨kd, a1, n1, c1, l1⟩, g0, g1, hs, hlt, hnone⟩)
      obtain ⟨b, off, spot⟩ := y
      have h1 := (hq 0 (by omega)).1
      have hspot : spot = none := by simpa [Addr.add] using World.cell?_spot h1
      subst hspot
      have hb : b < W.heap.size := World.block_lt_of_cell? W _ (by simpa [Addr.add] using h1)
      have hadd : ∀ j, (⟨b, off, none⟩ : Addr).add j = ⟨b, off + j, none⟩ := fun j => by unfold Addr.add; split <;> simp_all
      have hst : StepsAt W b off (((List.range n).map q).map Stp.tri) := fun j z hz => by
        simp only [List.getElem?_map, Option.map_eq_some_iff] at hz
        obtain ⟨z1, ⟨i, hi, rfl⟩, rfl⟩ := hz
        obtain ⟨hjn, hji⟩ := List.getElem?_eq_some_iff.1 hi
        have hj : j < n := by simpa using hjn
        have : j = i := by simpa using hji
        subst this
        have := hq j hj
        rw [hadd, hadd] at this
        exact ⟨this.1, this.2.1⟩
      by_cases h50 : 50 < n
      · exact law_many b off n c _ W (by simp) h50 hb hst
      · exact law_some b off n c ((List.range n).map q) W (by simp) (by omega) (by omega) hb hst (fun z hz => by
          obtain ⟨i, hi, rfl⟩ := List.mem_map.1 hz
          exact (hq i (by simpa using hi)).2.2) hp
set_option maxRecDepth 100000 in
theorem lifted (os : Os) (started : os.Started) (H : Type) (enc : TypeId × Value → H) :
    ReturnsInHanded {} Tryd.checked os 4 .any (fun w args => (Rows.fnHashedBySpec.pre enc Tryd.prog Tryd.f4 [] false w args ∧ laidMetH Tryd.prog Rows.fnHashedByRow.laid w) ∧ sizedMet enc Tryd.prog Tryd.f4 (OpenSpec.ofChange Rows.fnHashedBySpec) false w args)
      (Rows.fnHashedBySpec.post enc Tryd.prog Tryd.f4 false true false false) := by
  refine returnsInHanded_of_change_and (C := Tryd.checked) (X := fun w _ => laidMetH Tryd.prog Rows.fnHashedByRow.laid w) (fun _ _ _ hh h => h.of_heap hh) own started (by kernel_rfl) Tryd.func4
    (ChangeSpec.witness_shaped (enc := enc) (C := Tryd.checked) (os := os) (X := fun w _ => laidMetH Tryd.prog Rows.fnHashedByRow.laid w) false (World.doorLaid Tryd.prog 400 os) #[.slice none 0 0] 8 rfl (World.shaped_of_RefB (by kernel_rfl) (by kernel_rfl)) (by kernel_rfl) (by kernel_rfl) (by kernel_rfl) (door_met os _)) ?_
  intro W base args ds gs before hval0 hW _ _ hL _
  have hval : ∀ (j : Nat) t v, Tryd.f4.params[j]? = some t → args[j]? = some v → Value.okWide Tryd.prog W .any base t v := hval0
  have hW' := hW
  obtain ⟨p, q, hA0, hV, rfl, hfz, hnd⟩ := hW
  have hA : DataW.TrodAll enc Tryd.prog W 0 (fun _ => true) true Tryd.f4.params.toList args.toList ds p := hA0
  rw [Tryd.params4] at hA hval
  obtain ⟨v0, vs0, d0, ds0, p0, q0, hargs, rfl, rfl, h0, r0⟩ := trodAll_cons hA
  obtain ⟨rfl, rfl, rfl⟩ := trodAll_nil r0
  obtain rfl : args = #[v0] := by cases args; simp_all
  obtain ⟨g, tt, cs, fuel, dg, pg, rfl, hg1, hg2, hg3, hg4, rfl⟩ := trodVars_one hV
  have k0 := h0
  have lt0 : ∀ x ∈ p0, x.block < W.heap.size := by obtain ⟨m, hm⟩ := k0; exact DataW.trod_lt m _ _ _ hm
  have hcell := of_laid hL
  have hg0 : g = 0 := Option.some.inj (hg1.symm.trans gPrime)
  subst hg0
  have htt : tt = 23 := Option.some.inj (hg2.symm.trans tPrime)
  subst htt
  obtain ⟨kk, ek, ek2, ek3⟩ := DataW.trod_int Tryd.underlying23 hg4
  have hB : 0 < W.heap.size := World.block_lt_of_cell? W _ hcell
  obtain ⟨a0, len0, cap0, rfl⟩ := okWide_slice Tryd.underlying26 (hval 0 26 v0 rfl rfl)
  have hw : Calls Tryd.prog 4 #[.slice a0 len0 cap0] W fun e w' => e = .returned (.bool true) ∧ Below W.heap.size W w' := by
    obtain ⟨fuel, hf⟩ := h0
    exact law_of (by simpa [Value.cells] using hf) hcell
  clear hA0 hval0
  refine hw.mono fun e W' ⟨he, bel⟩ => ?_
  subst he
  have hv2 : DataW.TrodVars enc Tryd.prog W' (fun b => decide (b < W.heap.size)) ["given.example/pub-stylewright/pub/esbuild/inner/xxhash.prime1v"] [dg] (MemPlace.row ⟨0, 0, none⟩ cs.size ++ pg) :=
    trodVars_mk1 hg1 hg2 (var?_below bel hg1 hB hg3) (fuel := 1) (by
      simp only [Prod.mk.injEq] at ek2
      obtain ⟨rfl, rfl⟩ := ek2
      rw [ek]; simp [DataW.trod, Tryd.underlying23, ek3])
  exact ⟨_, rfl, _, _, _, [], _, _, hW', trodAll_mk1 (shut_bool Tryd.underlying4 _), (trodAll_cons_mk (Below.trod laidOut (by kernel_rfl) (of_decide_eq_true (by kernel_rfl)) k0 bel lt0) trodAll_mk0), hv2, bel.frame _, fun h => by cases h⟩

theorem over : Rows.fnHashedByRow.holds Tryd.pinned (OpenSpec.ofChange Rows.fnHashedBySpec) :=
  OpenClaim.holds_of_wide 4 Tryd.f4 rfl rfl rfl rfl rfl rfl rfl ⟨rfl, rfl, rfl, rfl, rfl⟩ rfl rfl rfl rfl rfl (by kernel_rfl) Tryd.func4 (by kernel_rfl)
    (of_decide_eq_true (by kernel_rfl)) (by unfold Func.isWrapper; first | (rw [if_pos (by decide +kernel)]; kernel_rfl) | (rw [if_neg (by decide +kernel)]; exact ⟨rfl, rfl⟩))
    (fun os started H enc _ => lifted os started H enc)
theorem proved : Rows.FnHashedByCardSaid :=
  Claim7.holds_tied_plain_at .later [] [.data] true (true, "3d031c1c9ba4f3be07184325bd1b2c353849f34d4567c3acac8e556ec12734b5") false
    over (fun _ h => by cases h) (by kernel_rfl) (fun _ h => by cases h) fnHashedBy_row_tie rfl ⟨rfl, rfl⟩ (by kernel_rfl) rfl
    (fun f fn hf hfn => by
      obtain rfl : f = 4 := Option.some.inj ((show Tryd.prog.funcNamed "given.example/pub-stylewright/laws.FnHashedBy" = some 4 by kernel_rfl).symm.trans hf) |>.symm
      obtain rfl : fn = Tryd.f4 := (Option.some.inj (Tryd.func4.symm.trans hfn)).symm
      exact ⟨by kernel_rfl, fun j t ht => by
        rw [Tryd.params4] at ht
        have hm : t ∈ [26] := by simpa using Array.mem_of_getElem? ht
        have hall : ([26].all fun u => !Tryd.prog.wantsStandIn u) = true := by kernel_rfl
        exact (show Tryd.prog.wantsStandIn t = false by simpa using List.all_eq_true.1 hall t hm)⟩)
    (by kernel_rfl)
#print axioms proved
end Go.Proofs.YtonndmljendcoaaDoor.fnHashedBy
