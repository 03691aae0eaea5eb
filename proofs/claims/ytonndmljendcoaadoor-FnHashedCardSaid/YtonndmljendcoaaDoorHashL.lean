/- FnHashed holds for every bytes: no condition (the card: the one variable read, prime1v, is tied to the program's text). -/
import Derived.Test.YtonndmljendcoaaDoorHashN
import Derived.Test.YtonndmljendcoaaDoorTie
import Derived.Test.YtonndmljendcoaaDoorCards
import Derived.SevenTiedAt
import Derived.ProofKit
import Derived.LaidMore
import Derived.OpenShut
import Derived.ShutString
import Derived.ChangeOld
import Derived.WalkSmall
import Derived.Stop.Joined
namespace Go.Proofs.YtonndmljendcoaaDoor.fnHashed
open Go Go.ChangeShapes Go.WideShapes Go.ChangeAt Go.RowKit
set_option linter.unusedVariables false
set_option linter.unusedSimpArgs false

set_option maxRecDepth 100000 in
set_option maxHeartbeats 4000000 in
theorem hashed_sl (a : Option Addr) (n c : Nat) (l : List UInt8) (w : World) (h : SlB w a n c l) (hn : n ≤ 100000) (hp : w.cell? ⟨0, 0, none⟩ = some (.int .u64 11400714785074694791)) :
    Calls Tryd.prog 5 #[.slice a n c] w fun e w' => e = .returned (.int .u64 ((hash l).toNat : Int)) ∧ Below w.heap.size w w' := by
  have C := Lib.hid (sum_sl a n c l w h hn hp)
  clear h hp
  go_enter Tryd.func5, Tryd.ntmps5
  go_wp2_with (go_at_call 10; refine C.out.mono ?_; rintro e w' ⟨rfl, hb⟩)
  go_ret
  exact ⟨rfl, hb⟩
set_option maxRecDepth 100000 in
set_option maxHeartbeats 4000000 in
theorem walk (a : Option Addr) (n c : Nat) (l : List UInt8) (w : World) (h : SlB w a n c l) (hp : w.cell? ⟨0, 0, none⟩ = some (.int .u64 11400714785074694791)) :
    Calls Tryd.prog 3 #[.slice a n c] w fun e w' => e = .returned (.bool true) ∧ Below w.heap.size w w' := by
  by_cases h1 : 2147483647 < n
  · have t1 : decide ((2147483647 : Int) < (n : Int)) = true := by simp; omega
    clear h hp h1
    go_enter Tryd.func3, Tryd.ntmps3
    go_wp2_with fail
    go_ret
    exact ⟨rfl, Below.refl _ _⟩
  · have t1 : decide ((2147483647 : Int) < (n : Int)) = false := by simp; omega
    by_cases h2 : 4096 < n
    · have t2 : decide ((4096 : Int) < (n : Int)) = true := by simp; omega
      clear h hp h1 h2
      go_enter Tryd.func3, Tryd.ntmps3
      go_wp2_with fail
      go_ret
      exact ⟨rfl, Below.refl _ _⟩
    · have t2 : decide ((4096 : Int) < (n : Int)) = false := by simp; omega
      have C5 := Lib.hid (hashed_sl a n c l w h (by omega) hp)
      have C6 := Lib.hid (fun w' (hb : Below w.heap.size w w') => hash_sl a n c l w' (h.below hb) (by omega))
      clear h hp h1 h2
      go_enter Tryd.func3, Tryd.ntmps3
      go_wp2_with (first | (go_at_call 5; refine C5.out.mono ?_; rintro e w1 ⟨rfl, hb1⟩) | (go_at_call 6; refine (C6.out _ hb1).mono ?_; rintro e w2 ⟨rfl, hb2⟩))
      go_ret
      exact ⟨rfl, hb1.trans (hb2.mono hb1.size)⟩

theorem own : ownKnob Tryd.prog.godebug = none := by kernel_rfl
theorem laidOut : laidOutB Tryd.prog = true := by kernel_rfl
theorem gPrime : Tryd.prog.globalNamed "given.example/pub-stylewright/pub/esbuild/inner/xxhash.prime1v" = some 0 := by kernel_rfl
theorem tPrime : (Tryd.prog.globals[0]?).map (·.type) = some 23 := by kernel_rfl
theorem door_met (os : Os) (args : Array Value) : laidMetH Tryd.prog Rows.fnHashedRow.laid ((World.doorLaid Tryd.prog 400 os).forCall (fun _ _ => 0) ⟨#[], args, []⟩).memory :=
  laidMetH_of_parts3 (fuel := 8) (laidMet_of_run' 8 (by kernel_rfl) (by kernel_rfl)) (by kernel_rfl) (by kernel_rfl)
/-- What the condition gives the walks: the prime's cell. -/
theorem of_laid {W : World} (h : laidMetH Tryd.prog Rows.fnHashedRow.laid W) : W.cell? ⟨0, 0, none⟩ = some (.int .u64 11400714785074694791) := by
  rw [MakeChecks.laidMetH_plain _ _ _ (by kernel_rfl)] at h
  obtain ⟨ps, ⟨g0, t0, cs0, f0, p0, q0, hg0, ht0, hv0, hd0, _⟩, _, _⟩ := h
  obtain rfl := Option.some.inj (gPrime.symm.trans hg0)
  obtain rfl := Option.some.inj (tPrime.symm.trans ht0)
  obtain ⟨k, e1, e2, _⟩ := DataW.trod_int Tryd.underlying23 hd0
  have hk : k = 11400714785074694791 := by
    simp only [Rows.laid_given_example_pub_stylewright_pub_esbuild_inner_xxhash_prime1v, Prod.mk.injEq, DataW.lit.injEq, Lit.int.injEq] at e2
    exact e2.1.2.symm
  subst hk
  have := World.var?_cell hg0 hv0 0
  rw [Array.eq_one_of_toList e1] at this
  simpa using this
theorem slb_of {W : World} {a : Option Addr} {len cap : Nat} {zs : List Int} (hl : len ≤ cap) (hz : zs.length = cap) (hwz : ∀ z ∈ zs, (Lit.int .u8 z).wf = true) (hlt : ∀ b off, a = some ⟨b, off, none⟩ → b < W.heap.size)
    (h : len = 0 ∨ ∃ b off, a = some ⟨b, off, none⟩ ∧ ∀ j, j < zs.length → W.cell? ⟨b, off + j, none⟩ = some (.int .u8 (zs.getD j 0))) : SlB W a len cap ((zs.take len).map fun z => UInt8.ofNat z.toNat) := by
  refine ⟨by simp; omega, hl, h.imp id fun ⟨b, off, ha, hc⟩ => ⟨b, off, ha, hlt b off ha, fun j hj => ?_⟩⟩
  have hjl : j < zs.length := by simp at hj; omega
  rw [hc j hjl]
  have hw := bounds_u8 (hwz zs[j] (List.getElem_mem _))
  have e : zs.getD j 0 = zs[j] := by simp [List.getD, List.getElem?_eq_getElem hjl]
  rw [e]
  simp
  omega
set_option maxRecDepth 100000 in
theorem lifted (os : Os) (started : os.Started) (H : Type) (enc : TypeId × Value → H) :
    ReturnsInHanded {} Tryd.checked os 3 .any (fun w args => (Rows.fnHashedSpec.pre enc Tryd.prog Tryd.f3 [] false w args ∧ laidMetH Tryd.prog Rows.fnHashedRow.laid w) ∧ sizedMet enc Tryd.prog Tryd.f3 (OpenSpec.ofChange Rows.fnHashedSpec) false w args)
      (Rows.fnHashedSpec.post enc Tryd.prog Tryd.f3 false true false false) := by
  refine returnsInHanded_of_change_and (C := Tryd.checked) (X := fun w _ => laidMetH Tryd.prog Rows.fnHashedRow.laid w) (fun _ _ _ hh h => h.of_heap hh) own started (by kernel_rfl) Tryd.func3
    (ChangeSpec.witness_shaped (enc := enc) (C := Tryd.checked) (os := os) (X := fun w _ => laidMetH Tryd.prog Rows.fnHashedRow.laid w) false (World.doorLaid Tryd.prog 400 os) #[.slice none 0 0] 8 rfl (World.shaped_of_RefB (by kernel_rfl) (by kernel_rfl)) (by kernel_rfl) (by kernel_rfl) (by kernel_rfl) (door_met os _)) ?_
  intro W base args ds gs before hval0 hW _ _ hL _
  have hval : ∀ (j : Nat) t v, Tryd.f3.params[j]? = some t → args[j]? = some v → Value.okWide Tryd.prog W .any base t v := hval0
  have hW' := hW
  obtain ⟨p, q, hA0, hV, rfl, hfz, hnd⟩ := hW
  have hA : DataW.TrodAll enc Tryd.prog W 0 (fun _ => true) true Tryd.f3.params.toList args.toList ds p := hA0
  rw [Tryd.params3] at hA hval
  obtain ⟨v0, vs0, d0, ds0, p0, q0, hargs, rfl, rfl, h0, r0⟩ := trodAll_cons hA
  obtain ⟨rfl, rfl, rfl⟩ := trodAll_nil r0
  obtain rfl : args = #[v0] := by cases args; simp_all
  obtain ⟨g, tt, cs, fuel, dg, pg, rfl, hg1, hg2, hg3, hg4, rfl⟩ := trodVars_one hV
  have k0 := h0
  have lt0 : ∀ x ∈ p0, x.block < W.heap.size := by obtain ⟨m, hm⟩ := k0; exact DataW.trod_lt m _ _ _ hm
  have hcell := of_laid hL
  have hg0 : g = 0 := Option.some.inj (hg1.symm.trans gPrime)
  subst hg0
  have htt : tt = 23 := Option.some.inj (hg2.symm.trans tPrime)
  subst htt
  obtain ⟨kk, ek, ek2, ek3⟩ := DataW.trod_int Tryd.underlying23 hg4
  have hB : 0 < W.heap.size := World.block_lt_of_cell? W _ hcell
  obtain ⟨a0, len0, cap0, rfl⟩ := okWide_slice Tryd.underlying22 (hval 0 22 v0 rfl rfl)
  obtain ⟨l, hsl⟩ : ∃ l, SlB W a0 len0 cap0 l := by
    obtain ⟨fuel, hf⟩ := h0
    rcases open_ints Tryd.underlying22 Tryd.underlying5 (by kernel_rfl) hf with ⟨hcs, hx⟩ | ⟨a, len', cap', zs, hcs, _, hl, hm, hz, hx, hcell, hwz⟩
    · simp [Value.cells] at hcs
      obtain ⟨rfl, rfl, rfl⟩ := hcs
      exact ⟨[], rfl, Nat.le_refl _, .inl rfl⟩
    · simp [Value.cells] at hcs
      obtain ⟨rfl, rfl, rfl⟩ := hcs
      simp only [if_true] at hz
      by_cases hz0 : len0 = 0
      · exact ⟨[], hz0.symm, hl, .inl hz0⟩
      · obtain ⟨b, off, rfl, hc⟩ := ints_at hcell (by omega)
        exact ⟨_, slb_of hl hz hwz (fun b' off' e => by cases e; exact World.block_lt_of_cell? W _ (hc 0 (by omega))) (.inr ⟨b, off, rfl, hc⟩)⟩
  clear hA0 hval0
  refine (walk a0 len0 cap0 l W hsl hcell).mono fun e W' ⟨he, bel⟩ => ?_
  subst he
  have hv2 : DataW.TrodVars enc Tryd.prog W' (fun b => decide (b < W.heap.size)) ["given.example/pub-stylewright/pub/esbuild/inner/xxhash.prime1v"] [dg] (MemPlace.row ⟨0, 0, none⟩ cs.size ++ pg) :=
    trodVars_mk1 hg1 hg2 (var?_below bel hg1 hB hg3) (fuel := 1) (by
      simp only [Prod.mk.injEq] at ek2
      obtain ⟨rfl, rfl⟩ := ek2
      rw [ek]; simp [DataW.trod, Tryd.underlying23, ek3])
  exact ⟨_, rfl, _, _, _, [], _, _, hW', trodAll_mk1 (shut_bool Tryd.underlying4 _), (trodAll_cons_mk (Below.trod laidOut (by kernel_rfl) (of_decide_eq_true (by kernel_rfl)) k0 bel lt0) trodAll_mk0), hv2, bel.frame _, fun h => by cases h⟩

theorem over : Rows.fnHashedRow.holds Tryd.pinned (OpenSpec.ofChange Rows.fnHashedSpec) :=
  OpenClaim.holds_of_wide 3 Tryd.f3 rfl rfl rfl rfl rfl rfl rfl ⟨rfl, rfl, rfl, rfl, rfl⟩ rfl rfl rfl rfl rfl (by kernel_rfl) Tryd.func3 (by kernel_rfl)
    (of_decide_eq_true (by kernel_rfl)) (by unfold Func.isWrapper; first | (rw [if_pos (by decide +kernel)]; kernel_rfl) | (rw [if_neg (by decide +kernel)]; exact ⟨rfl, rfl⟩))
    (fun os started H enc _ => lifted os started H enc)
theorem proved : Rows.FnHashedCardSaid :=
  Claim7.holds_tied_plain_at .later [] [.data] true (true, "3d031c1c9ba4f3be07184325bd1b2c353849f34d4567c3acac8e556ec12734b5") false
    over (fun _ h => by cases h) (by kernel_rfl) (fun _ h => by cases h) fnHashed_row_tie rfl ⟨rfl, rfl⟩ (by kernel_rfl) rfl
    (fun f fn hf hfn => by
      obtain rfl : f = 3 := Option.some.inj ((show Tryd.prog.funcNamed "given.example/pub-stylewright/laws.FnHashed" = some 3 by kernel_rfl).symm.trans hf) |>.symm
      obtain rfl : fn = Tryd.f3 := (Option.some.inj (Tryd.func3.symm.trans hfn)).symm
      exact ⟨by kernel_rfl, fun j t ht => by
        rw [Tryd.params3] at ht
        have hm : t ∈ [22] := by simpa using Array.mem_of_getElem? ht
        have hall : ([22].all fun u => !Tryd.prog.wantsStandIn u) = true := by kernel_rfl
        exact (show Tryd.prog.wantsStandIn t = false by simpa using List.all_eq_true.1 hall t hm)⟩)
    (by kernel_rfl)
#print axioms proved
end Go.Proofs.YtonndmljendcoaaDoor.fnHashed
