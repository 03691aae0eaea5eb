/- FnDataURL holds for every text: no condition of ours (the card: the three variables read are tied to the program's text). -/
import Derived.Test.YtmfbnmjmgpafmaaDoorLawC
import Derived.Test.YtmfbnmjmgpafmaaDoorTie
import Derived.Test.YtmfbnmjmgpafmaaDoorCards
import Derived.SevenTiedAt
import Derived.ProofKit
import Derived.LaidMore
import Derived.OpenShut
import Derived.ShutString
import Derived.ChangeOld
import Derived.WalkSmall
import Derived.Lib.LaidU8T
import Derived.Lay
namespace Go.Proofs.YtmfbnmjmgpafmaaDoor.fnDataURL
open Go Go.ChangeShapes Go.WideShapes Go.ChangeAt Go.RowKit
set_option linter.unusedVariables false
set_option linter.unusedSimpArgs false
theorem walk (s : ByteArray) (w : World) (hT : Lib.Utf8Tabs 0 1 w) (hU : UrlTab 3 w) (hB : 3 < w.heap.size) : Calls Tryd.prog 3 #[.string s] w fun e w' => e = .returned (.bool true) ∧ Below w.heap.size w w' := by
  by_cases h1 : 2147483647 < s.size
  · exact law_great s w h1
  · by_cases hg : Good s 0
    · by_cases h3 : 300 < s.size
      · exact law_long s w h1 hg h3
      · by_cases hf : Fine s
        · obtain ⟨p, r, U, q, h⟩ := urls_of s
          exact law_good s p r U q w h3 hg hf h hT hU hB
        · exact law_bad s w h3 hg hf
    · refine law_none s w h1 ?_
      cases hu : unitsFrom s 0 with
      | none => rfl
      | some l => exact absurd ⟨l, hu⟩ hg
theorem own : ownKnob Tryd.prog.godebug = none := by kernel_rfl
theorem laidOut : laidOutB Tryd.prog = true := by kernel_rfl
def ren : Go.Shelf.Ren := ⟨fun n => n, fun | 119 => 67 | 138 => 81 | 139 => 82 | n => n, fun | 3 => 0 | 4 => 1 | n => n⟩
theorem u8types : U8Types Tryd.prog ren := { t5 := Tryd.underlying5, t119 := Tryd.underlying67, t138 := Tryd.underlying81, t139 := Tryd.underlying82 }
theorem u8extra : U8Extra Tryd.prog ren := { n3 := by kernel_rfl, n4 := by kernel_rfl, y3 := by kernel_rfl, y4 := by kernel_rfl, c5 := by kernel_rfl, c119 := by kernel_rfl, c138 := by kernel_rfl }
theorem firstIs : Rows.laid_unicode_utf8_first = Lib.firstData := by kernel_rfl
theorem acceptIs : (Rows.laid_unicode_utf8_acceptRanges : DataW Unit) = Lib.acceptData := by kernel_rfl
theorem n3 : Tryd.prog.globalNamed "net/url.table" = some 3 := by kernel_rfl
theorem y3 : (Tryd.prog.globals[3]?).map (·.type) = some 108 := by kernel_rfl
/-- The net/url table's numbers. -/
def urlTab : List Int := match (Rows.laid_net_url_table : DataW Unit) with
  | .agg l => l.map fun | .lit (.int _ z) => z | _ => 0
  | _ => []
theorem urlIs : (Rows.laid_net_url_table : DataW Unit) = Lib.tabData .u8 urlTab := by kernel_rfl
theorem urlHex : ∀ c : Fin 256, isHexN c.val = true → urlTab[c.val]? = some (((urlTab.getD c.val 0).toNat : Nat) : Int) ∧ 128 ≤ (urlTab.getD c.val 0).toNat ∧ (urlTab.getD c.val 0).toNat < 256 := by decide +kernel
theorem cells77 : Tryd.prog.cellsOf 77 = 1 := by kernel_rfl
theorem cells108 : Tryd.prog.cellsOf 108 = 256 := by kernel_rfl
theorem url_of_reads {w : World} (h : Lib.VarReads Tryd.prog w "net/url.table" Rows.laid_net_url_table) : UrlTab 3 w := by
  intro c hc
  obtain ⟨g, t, cs, fuel, p, hg, hty, hvar, hd⟩ := h
  obtain rfl := Option.some.inj (n3.symm.trans hg)
  obtain rfl := Option.some.inj (y3.symm.trans hty)
  rw [urlIs] at hd
  have hcs := Lib.cells_of_tab Tryd.underlying108 Tryd.underlying77 cells77 cells108 hd
  have hv := urlHex ⟨c, by have := hex_lt hc; omega⟩ hc
  refine ⟨_, ?_, hv.2⟩
  have := World.var?_cell hg hvar c
  rw [this, ← Array.getElem?_toList, hcs]
  rw [List.getElem?_map, hv.1]
  rfl
/-- What the condition gives the walks: the decoder's two tables, and that of net/url. -/
theorem of_laid {W : World} (h : laidMetH Tryd.prog Rows.fnDataURLRow.laid W) : Lib.Utf8Tabs 0 1 W ∧ UrlTab 3 W := by
  rw [MakeChecks.laidMetH_plain _ _ _ (by kernel_rfl)] at h
  obtain ⟨ps, hv, _⟩ := h
  exact ⟨utf8Tabs_of_readsT u8types u8extra (Lib.LaidVars_reads hv _ _ (by rw [← firstIs]; exact List.mem_cons_of_mem _ (List.mem_cons_of_mem _ (List.mem_cons_self ..)))) (Lib.LaidVars_reads hv _ _ (by rw [← acceptIs]; exact List.mem_cons_self ..)),
    url_of_reads (Lib.LaidVars_reads hv _ _ (List.mem_cons_of_mem _ (List.mem_cons_self ..)))⟩
theorem tab_lt {W : World} (h : UrlTab 3 W) : 3 < W.heap.size := by
  obtain ⟨v, hv, _⟩ := h 48 (by decide)
  exact World.block_lt_of_cell? W _ hv
set_option maxRecDepth 100000 in
set_option maxHeartbeats 2000000 in
theorem lifted (os : Os) (started : os.Started) (H : Type) (enc : TypeId × Value → H) :
    ReturnsInHanded {} Tryd.checked os 3 .any (fun w args => (Rows.fnDataURLSpec.pre enc Tryd.prog Tryd.f3 [] false w args ∧ laidMetH Tryd.prog Rows.fnDataURLRow.laid w) ∧ sizedMet enc Tryd.prog Tryd.f3 (OpenSpec.ofChange Rows.fnDataURLSpec) false w args)
      (Rows.fnDataURLSpec.post enc Tryd.prog Tryd.f3 false true false false) := by
  refine returnsInHanded_of_change_and (C := Tryd.checked) (X := fun w _ => laidMetH Tryd.prog Rows.fnDataURLRow.laid w) (fun _ _ _ hh h => h.of_heap hh) own started (by kernel_rfl) Tryd.func3
    (ChangeSpec.witness_shaped (enc := enc) (C := Tryd.checked) (os := os) (X := fun w _ => laidMetH Tryd.prog Rows.fnDataURLRow.laid w) false (World.laidAll Tryd.prog os Rows.fnDataURLRow.laid) #[.string ByteArray.empty] 8 (World.laidAll_os _ _ _)
      (World.shaped_of_ZipB (by kernel_rfl) (by kernel_rfl)) (by kernel_rfl) (by kernel_rfl) (by kernel_rfl)
      (by rw [MakeChecks.laidMetH_plain _ _ _ (by kernel_rfl)]; exact laidMet_laidAll _ (by kernel_rfl) (by kernel_rfl))) ?_
  intro W base args ds gs before hval0 hW _ _ hL _
  have hval : ∀ (j : Nat) t v, Tryd.f3.params[j]? = some t → args[j]? = some v → Value.okWide Tryd.prog W .any base t v := hval0
  have hW' := hW
  obtain ⟨p, q, hA0, hV, rfl, hfz, hnd⟩ := hW
  have hA : DataW.TrodAll enc Tryd.prog W 0 (fun _ => true) true Tryd.f3.params.toList args.toList ds p := hA0
  rw [Tryd.params3] at hA hval
  obtain ⟨v0, vs0, d0, ds0, p0, q0, hargs, rfl, rfl, h0, r0⟩ := trodAll_cons hA
  obtain ⟨rfl, rfl, rfl⟩ := trodAll_nil r0
  obtain rfl : args = #[v0] := by cases args; simp_all
  obtain ⟨rfl, rfl⟩ := trodVars_none hV
  have k0 := h0
  have lt0 : ∀ x ∈ p0, x.block < W.heap.size := by obtain ⟨m, hm⟩ := k0; exact DataW.trod_lt m _ _ _ hm
  have hT := of_laid hL
  obtain ⟨s, rfl⟩ := okWide_string Tryd.underlying9 (hval 0 9 v0 rfl rfl)
  clear hA0 hval0
  refine (walk s W hT.1 hT.2 (tab_lt hT.2)).mono fun e W' ⟨he, bel⟩ => ?_
  subst he
  exact ⟨_, rfl, _, _, _, [], _, [], hW', trodAll_mk1 (shut_bool Tryd.underlying4 _), (trodAll_cons_mk (Below.trod laidOut (by kernel_rfl) (of_decide_eq_true (by kernel_rfl)) k0 bel lt0) trodAll_mk0), rfl, bel.frame _, fun h => by cases h⟩
theorem over : Rows.fnDataURLRow.holds Tryd.pinned (OpenSpec.ofChange Rows.fnDataURLSpec) :=
  OpenClaim.holds_of_wide 3 Tryd.f3 rfl rfl rfl rfl rfl rfl rfl ⟨rfl, rfl, rfl, rfl, rfl⟩ rfl rfl rfl rfl rfl (by kernel_rfl) Tryd.func3 (by kernel_rfl)
    (of_decide_eq_true (by kernel_rfl)) (by unfold Func.isWrapper; first | (rw [if_pos (by decide +kernel)]; kernel_rfl) | (rw [if_neg (by decide +kernel)]; exact ⟨rfl, rfl⟩))
    (fun os started H enc _ => lifted os started H enc)
theorem proved : Rows.FnDataURLCardSaid :=
  Claim7.holds_tied_plain_at .later [] [.data, .data, .pinned] true (true, "71638a39e6b2c2ad1988cc928f92627eecc3325d3ab3ee51edd773304afb761c") true
    over (fun _ h => by cases h) (by kernel_rfl) (fun _ h => by cases h) fnDataURL_row_tie rfl ⟨rfl, rfl⟩ (by kernel_rfl) rfl
    (fun f fn hf hfn => by
      obtain rfl : f = 3 := Option.some.inj ((show Tryd.prog.funcNamed "given.example/pub-stylewright/laws.FnDataURL" = some 3 by kernel_rfl).symm.trans hf) |>.symm
      obtain rfl : fn = Tryd.f3 := (Option.some.inj (Tryd.func3.symm.trans hfn)).symm
      exact ⟨by kernel_rfl, fun j t ht => by
        rw [Tryd.params3] at ht
        have hm : t ∈ [9] := by simpa using Array.mem_of_getElem? ht
        have hall : ([9].all fun u => !Tryd.prog.wantsStandIn u) = true := by kernel_rfl
        exact (show Tryd.prog.wantsStandIn t = false by simpa using List.all_eq_true.1 hall t hm)⟩)
    (by kernel_rfl)
#print axioms proved
end Go.Proofs.YtmfbnmjmgpafmaaDoor.fnDataURL
