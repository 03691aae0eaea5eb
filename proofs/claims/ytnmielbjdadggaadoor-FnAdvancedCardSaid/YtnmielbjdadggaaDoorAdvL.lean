/- FnAdvanced holds for every place and text: no condition of ours (the card: the two variables read are tied to the program's text). -/
import Derived.Test.YtnmielbjdadggaaDoorImp
import Derived.Test.YtnmielbjdadggaaDoorUnits
import Derived.Test.YtnmielbjdadggaaDoorPlace
import Derived.Test.YtnmielbjdadggaaDoorTie
import Derived.Test.YtnmielbjdadggaaDoorCards
import Derived.SevenTiedAt
import Derived.ProofKit
import Derived.LaidMore
import Derived.OpenShut
import Derived.ShutString
import Derived.ChangeOld
import Derived.WalkSmall
import Derived.Stop.Joined
import Derived.Lib.LaidU8T
import Derived.Lay
import Derived.Deep.RegionHeld3
import Derived.Deep.RegionLaw
import Derived.Deep.RegionWith
import Derived.Deep.DrawnRows
namespace Go.Proofs.YtnmielbjdadggaaDoor.fnAdvanced
open Go Go.ChangeShapes Go.WideShapes Go.ChangeAt Go.RowKit
set_option linter.unusedVariables false
set_option linter.unusedSimpArgs false
theorem place_ab : place ⟨#[97, 98]⟩ 0 0 = (0, 2) := by
  have h0 : Utf8.decode ⟨#[97, 98]⟩ 0 = (97, 1) := by decide
  have h1 : Utf8.decode ⟨#[97, 98]⟩ 1 = (98, 1) := by decide
  unfold place
  rw [runes_step (by decide), h0, runes_step (by decide)]
  simp only [Nat.zero_add, h1]
  rw [runes_end (by decide)]
  rw [place_one (by decide) (by decide), place_one (by decide) (by decide)]
  rfl
/-- The place lies at the head of the call's own blocks. -/
structure In (w : World) (l c : Nat) (w1 : World) : Prop where
  bel : Below w.heap.size w w1
  c0 : w1.cell? ⟨w.heap.size, 0, none⟩ = some (.int .i64 l)
  c1 : w1.cell? ⟨w.heap.size, 1, none⟩ = some (.int .i64 c)
  lt : w.heap.size < w1.heap.size
theorem In.step {w w1 w2 : World} {l c : Nat} (h : In w l c w1) (hb : Below w1.heap.size w1 w2) : In w l c w2 :=
  ⟨h.bel.trans (hb.mono h.bel.size), (hb.cell h.lt).trans h.c0, (hb.cell h.lt).trans h.c1, Nat.lt_of_lt_of_le h.lt hb.size⟩
theorem In.start (w : World) (l c : Nat) : In w l c (w.alloc (.cells #[.int .i64 l, .int .i64 c] 23)) :=
  ⟨(Below.refl _ w).alloc (Nat.le_refl _) _, World.cell?_alloc_mark w _ 23 (0, 0) 0, World.cell?_alloc_mark w _ 23 (0, 0) 1, by simp⟩
/-- What stands through the last statement: the place at block A, what is to come at block B. -/
theorem step_S {w W W' : World} {A B : Nat} {a b c d : Value} (h : W.cell? ⟨A, 0, none⟩ = some a ∧ W.cell? ⟨A, 1, none⟩ = some b ∧ W.cell? ⟨B, 0, none⟩ = some c ∧ W.cell? ⟨B, 1, none⟩ = some d ∧ Hid (A < W.heap.size) ∧ Hid (B < W.heap.size) ∧ Hid (Below w.heap.size w W)) (hb : Below W.heap.size W W') :
    W'.cell? ⟨A, 0, none⟩ = some a ∧ W'.cell? ⟨A, 1, none⟩ = some b ∧ W'.cell? ⟨B, 0, none⟩ = some c ∧ W'.cell? ⟨B, 1, none⟩ = some d ∧ Hid (A < W'.heap.size) ∧ Hid (B < W'.heap.size) ∧ Hid (Below w.heap.size w W') := by
  obtain ⟨h1, h2, h3, h4, h5, h6, h7⟩ := h
  exact ⟨(hb.cell h5.out).trans h1, (hb.cell h5.out).trans h2, (hb.cell h6.out).trans h3, (hb.cell h6.out).trans h4, Nat.lt_of_lt_of_le h5.out hb.size, Nat.lt_of_lt_of_le h6.out hb.size, h7.out.trans (hb.mono h7.out.size)⟩
set_option maxRecDepth 100000 in
set_option maxHeartbeats 4000000 in
theorem walk (a b : Int) (s : ByteArray) (w : World) (hT : Lib.Utf8Tabs 0 1 w) (hB : 1 < w.heap.size) :
    Calls Tryd.prog 3 #[.agg #[.int .i64 a, .int .i64 b], .string s] w fun e w' => e = .returned (.bool true) ∧ Below w.heap.size w w' := by
  by_cases h1 : 2147483647 < s.size
  · have t1 : decide ((2147483647 : Int) < (s.size : Int)) = true := by simp; omega
    clear hT h1
    go_enter Tryd.func3, Tryd.ntmps3
    go_wp2_with fail
    go_ret
    exact ⟨rfl, (Below.refl _ _).alloc (Nat.le_refl _) _⟩
  · have t1 : decide ((2147483647 : Int) < (s.size : Int)) = false := by simp; omega
    by_cases h2 : a < 0 ∨ 10000 < a ∨ b < 0 ∨ 10000 < b ∨ 1000 < s.size
    · clear hT
      have ha : a < 0 ∨ (¬ a < 0 ∧ 10000 < a) ∨ (¬ a < 0 ∧ ¬ 10000 < a ∧ b < 0) ∨ (¬ a < 0 ∧ ¬ 10000 < a ∧ ¬ b < 0 ∧ 10000 < b) ∨ (¬ a < 0 ∧ ¬ 10000 < a ∧ ¬ b < 0 ∧ ¬ 10000 < b ∧ (1000 : Int) < (s.size : Int)) := by omega
      clear h2
      rcases ha with h | ⟨h2, h⟩ | ⟨h2, h3, h⟩ | ⟨h2, h3, h4, h⟩ | ⟨h2, h3, h4, h5, h⟩
      all_goals
        go_enter Tryd.func3, Tryd.ntmps3
        go_wp2_with fail
        go_ret
        exact ⟨rfl, (Below.refl _ _).alloc (Nat.le_refl _) _⟩
    · obtain ⟨l0, rfl⟩ : ∃ l0 : Nat, a = (l0 : Int) := ⟨a.toNat, by omega⟩
      obtain ⟨c0, rfl⟩ : ∃ c0 : Nat, b = (c0 : Int) := ⟨b.toNat, by omega⟩
      have hl : l0 ≤ 10000 := by omega
      have hc : c0 ≤ 10000 := by omega
      have hs : s.size ≤ 1000 := by omega
      have CU := Lib.hid ((units_any s (w.alloc (.cells #[.int .i64 l0, .int .i64 c0] 23)) hs).mono (R' := fun e w1 => ∃ v f, e = .returned (.tuple #[v, .bool f]) ∧ In w l0 c0 w1) (by
        rintro e w1 ⟨hb, ⟨_, rfl⟩ | ⟨l, v, _, _, rfl, _⟩⟩
        · exact ⟨_, _, rfl, (In.start w l0 c0).step hb⟩
        · exact ⟨_, _, rfl, (In.start w l0 c0).step hb⟩))
      obtain ⟨L, hL⟩ : ∃ L, (place s l0 c0).1 = L := ⟨_, rfl⟩
      obtain ⟨C, hC⟩ : ∃ C, (place s l0 c0).2 = C := ⟨_, rfl⟩
      have CP := Lib.hid (fun w' (h : In w l0 c0 w') => (place_any s l0 c0 w' hs hl hc).mono (R' := fun e w2 => e = .returned (.tuple #[.int .i64 L, .int .i64 C]) ∧ In w l0 c0 w2) (by
        rintro e w2 ⟨rfl, hb⟩
        exact ⟨by rw [hL, hC], h.step hb⟩))
      have HT := Lib.hid hT
      have HL := Lib.hid hL
      have HC := Lib.hid hC
      clear hT hL hC h2
      go_enter Tryd.func3, Tryd.ntmps3
      go_wp2_with (first | (go_at_call 4; refine CU.out.mono ?_; rintro e w1 ⟨v, f, rfl, I1⟩; have k0 := I1.c0; have k1 := I1.c1) | (go_at_call 5; refine (CP.out _ I1).mono ?_; rintro e w2 ⟨rfl, I2⟩; have k0 := I2.c0; have k1 := I2.c1))
      · go_ret
        exact ⟨rfl, I1.bel⟩
      · have hS0 : (w2.alloc (Obj.cells #[Value.int IntKind.i64 L, Value.int IntKind.i64 C] 23)).cell? ⟨w.heap.size, 0, none⟩ = some (.int .i64 l0) ∧ (w2.alloc (Obj.cells #[Value.int IntKind.i64 L, Value.int IntKind.i64 C] 23)).cell? ⟨w.heap.size, 1, none⟩ = some (.int .i64 c0) ∧
            (w2.alloc (Obj.cells #[Value.int IntKind.i64 L, Value.int IntKind.i64 C] 23)).cell? ⟨w2.heap.size, 0, none⟩ = some (.int .i64 L) ∧ (w2.alloc (Obj.cells #[Value.int IntKind.i64 L, Value.int IntKind.i64 C] 23)).cell? ⟨w2.heap.size, 1, none⟩ = some (.int .i64 C) ∧
            Hid (w.heap.size < (w2.alloc (Obj.cells #[Value.int IntKind.i64 L, Value.int IntKind.i64 C] 23)).heap.size) ∧ Hid (w2.heap.size < (w2.alloc (Obj.cells #[Value.int IntKind.i64 L, Value.int IntKind.i64 C] 23)).heap.size) ∧ Hid (Below w.heap.size w (w2.alloc (Obj.cells #[Value.int IntKind.i64 L, Value.int IntKind.i64 C] 23))) := by
          have hb := (Below.refl w2.heap.size w2).alloc (Nat.le_refl _) (Obj.cells #[Value.int IntKind.i64 L, Value.int IntKind.i64 C] 23)
          have := I2.step hb
          exact ⟨this.c0, this.c1, World.cell?_alloc_mark w2 _ 23 (0, 0) 0, World.cell?_alloc_mark w2 _ 23 (0, 0) 1, this.lt, by show _ < _; simp, this.bel⟩
        have CA := Lib.hid (fun (bb : Bool) (W : World) (h : W.cell? ⟨w.heap.size, 0, none⟩ = some (.int .i64 (l0 : Int)) ∧ W.cell? ⟨w.heap.size, 1, none⟩ = some (.int .i64 (c0 : Int)) ∧ W.cell? ⟨w2.heap.size, 0, none⟩ = some (.int .i64 (L : Int)) ∧ W.cell? ⟨w2.heap.size, 1, none⟩ = some (.int .i64 (C : Int)) ∧ Hid (w.heap.size < W.heap.size) ∧ Hid (w2.heap.size < W.heap.size) ∧ Hid (Below w.heap.size w W)) => advanced_any s l0 c0 bb W hs hl hc (tabs_below HT.out hB h.2.2.2.2.2.2.out) (Nat.lt_of_lt_of_le hB h.2.2.2.2.2.2.out.size))
        have CB : Hid (∀ W : World, W.cell? ⟨w.heap.size, 0, none⟩ = some (.int .i64 (l0 : Int)) ∧ W.cell? ⟨w.heap.size, 1, none⟩ = some (.int .i64 (c0 : Int)) ∧ W.cell? ⟨w2.heap.size, 0, none⟩ = some (.int .i64 (L : Int)) ∧ W.cell? ⟨w2.heap.size, 1, none⟩ = some (.int .i64 (C : Int)) ∧ Hid (w.heap.size < W.heap.size) ∧ Hid (w2.heap.size < W.heap.size) ∧ Hid (Below w.heap.size w W) → Calls Tryd.prog 6 #[.agg #[.int .i64 0, .int .i64 0], .string ⟨#[97, 98]⟩, .bool true] W fun e w' => e = .returned (.agg #[.int .i64 0, .int .i64 2]) ∧ Below W.heap.size W w') := Lib.hid (fun (W : World) h => by
          have := advanced_any ⟨#[97, 98]⟩ 0 0 true W (by decide) (by omega) (by omega) (tabs_below HT.out hB h.2.2.2.2.2.2.out) (Nat.lt_of_lt_of_le hB h.2.2.2.2.2.2.out.size)
          rw [place_ab] at this
          exact this)
        rw [HL.out, HC.out] at CA
        generalize w2.alloc (Obj.cells #[Value.int IntKind.i64 L, Value.int IntKind.i64 C] 23) = W3 at *
        generalize w2.heap.size = B at *
        clear CU CP HT HL HC I1 I2 k0 k1 t1 h1
        go_region_held3 (fun W => W.cell? ⟨w.heap.size, 0, none⟩ = some (.int .i64 (l0 : Int)) ∧ W.cell? ⟨w.heap.size, 1, none⟩ = some (.int .i64 (c0 : Int)) ∧ W.cell? ⟨B, 0, none⟩ = some (.int .i64 (L : Int)) ∧ W.cell? ⟨B, 1, none⟩ = some (.int .i64 (C : Int)) ∧ Hid (w.heap.size < W.heap.size) ∧ Hid (B < W.heap.size) ∧ Hid (Below w.heap.size w W))
          (first | exact hS0 | exact step_S hS0 ((Below.refl _ _).drew) | (refine step_S ?_ hb; assumption))
          (first | (go_at_call 6; first | (with_reducible refine (CA.out false _ (by assumption)).mono ?_; rintro e w' ⟨rfl, hb⟩) | (with_reducible refine (CA.out true _ (by assumption)).mono ?_; rintro e w' ⟨rfl, hb⟩) | (with_reducible refine (CB.out _ (by assumption)).mono ?_; rintro e w' ⟨rfl, hb⟩)))
        have HS : w'.cell? ⟨w.heap.size, 0, none⟩ = some (.int .i64 (l0 : Int)) ∧ w'.cell? ⟨w.heap.size, 1, none⟩ = some (.int .i64 (c0 : Int)) ∧ w'.cell? ⟨B, 0, none⟩ = some (.int .i64 (L : Int)) ∧ w'.cell? ⟨B, 1, none⟩ = some (.int .i64 (C : Int)) ∧ Hid (w.heap.size < w'.heap.size) ∧ Hid (B < w'.heap.size) ∧ Hid (Below w.heap.size w w') := by assumption
        go_wp2_with fail
        go_ret
        exact ⟨rfl, HS.2.2.2.2.2.2.out⟩

theorem own : ownKnob Tryd.prog.godebug = none := by kernel_rfl
theorem laidOut : laidOutB Tryd.prog = true := by kernel_rfl
theorem cells23 : Tryd.prog.cellsOf 23 = 2 := by kernel_rfl
theorem cells3 : Tryd.prog.cellsOf 3 = 1 := by kernel_rfl
def ren : Go.Shelf.Ren := ⟨fun n => n, fun | 119 => 41 | 138 => 43 | 139 => 44 | n => n, fun | 3 => 0 | 4 => 1 | n => n⟩
theorem u8types : U8Types Tryd.prog ren := { t5 := Tryd.underlying5, t119 := Tryd.underlying41, t138 := Tryd.underlying43, t139 := Tryd.underlying44 }
theorem u8extra : U8Extra Tryd.prog ren := { n3 := by kernel_rfl, n4 := by kernel_rfl, y3 := by kernel_rfl, y4 := by kernel_rfl, c5 := by kernel_rfl, c119 := by kernel_rfl, c138 := by kernel_rfl }
theorem firstIs : Rows.laid_unicode_utf8_first = Lib.firstData := by kernel_rfl
theorem acceptIs : (Rows.laid_unicode_utf8_acceptRanges : DataW Unit) = Lib.acceptData := by kernel_rfl
/-- What the condition gives the walks: the decoder's two tables. -/
theorem of_laid {W : World} (h : laidMetH Tryd.prog Rows.fnAdvancedRow.laid W) : Lib.Utf8Tabs 0 1 W := by
  rw [MakeChecks.laidMetH_plain _ _ _ (by kernel_rfl)] at h
  obtain ⟨ps, hv, _⟩ := h
  exact utf8Tabs_of_readsT u8types u8extra (Lib.LaidVars_reads hv _ _ (by rw [← firstIs]; exact List.mem_cons_of_mem _ (List.mem_cons_self ..))) (Lib.LaidVars_reads hv _ _ (by rw [← acceptIs]; exact List.mem_cons_self ..))
theorem tabs_lt {W : World} (h : Lib.Utf8Tabs 0 1 W) : 1 < W.heap.size := World.block_lt_of_cell? W _ (h.2 0 (by omega)).1
theorem two_of {l : List Value} (h : (l.toArray).size = 2) : ∃ y0 y1, l = [y0, y1] := by
  match l, h with
  | [y0, y1], _ => exact ⟨y0, y1, rfl⟩
set_option maxRecDepth 100000 in
set_option maxHeartbeats 2000000 in
theorem lifted (os : Os) (started : os.Started) (H : Type) (enc : TypeId × Value → H) :
    ReturnsInHanded {} Tryd.checked os 3 .any (fun w args => (Rows.fnAdvancedSpec.pre enc Tryd.prog Tryd.f3 [] false w args ∧ laidMetH Tryd.prog Rows.fnAdvancedRow.laid w) ∧ sizedMet enc Tryd.prog Tryd.f3 (OpenSpec.ofChange Rows.fnAdvancedSpec) false w args)
      (Rows.fnAdvancedSpec.post enc Tryd.prog Tryd.f3 false true false false) := by
  refine returnsInHanded_of_change_and (C := Tryd.checked) (X := fun w _ => laidMetH Tryd.prog Rows.fnAdvancedRow.laid w) (fun _ _ _ hh h => h.of_heap hh) own started (by kernel_rfl) Tryd.func3
    (ChangeSpec.witness_shaped (enc := enc) (C := Tryd.checked) (os := os) (X := fun w _ => laidMetH Tryd.prog Rows.fnAdvancedRow.laid w) false (World.laidAll Tryd.prog os Rows.fnAdvancedRow.laid) #[.agg #[.int .i64 0, .int .i64 0], .string ByteArray.empty] 8 (World.laidAll_os _ _ _)
      (World.shaped_of_ZipB (by kernel_rfl) (by kernel_rfl)) (by kernel_rfl) (by kernel_rfl) (by kernel_rfl)
      (by rw [MakeChecks.laidMetH_plain _ _ _ (by kernel_rfl)]; exact laidMet_laidAll _ (by kernel_rfl) (by kernel_rfl))) ?_
  intro W base args ds gs before hval0 hW _ _ hL _
  have hval : ∀ (j : Nat) t v, Tryd.f3.params[j]? = some t → args[j]? = some v → Value.okWide Tryd.prog W .any base t v := hval0
  have hW' := hW
  obtain ⟨p, q, hA0, hV, rfl, hfz, hnd⟩ := hW
  have hA : DataW.TrodAll enc Tryd.prog W 0 (fun _ => true) true Tryd.f3.params.toList args.toList ds p := hA0
  rw [Tryd.params3] at hA hval
  obtain ⟨v0, vs0, d0, ds0, p0, q0, hargs, rfl, rfl, h0, r0⟩ := trodAll_cons hA
  obtain ⟨v1, vs1, d1, ds1, p1, q1, rfl, rfl, rfl, h1, r1⟩ := trodAll_cons r0
  obtain ⟨rfl, rfl, rfl⟩ := trodAll_nil r1
  obtain rfl : args = #[v0, v1] := by cases args; simp_all
  obtain ⟨rfl, rfl⟩ := trodVars_none hV
  have k0 := h0
  have lt0 : ∀ x ∈ p0, x.block < W.heap.size := by obtain ⟨m, hm⟩ := k0; exact DataW.trod_lt m _ _ _ hm
  have k1 := h1
  have lt1 : ∀ x ∈ p1, x.block < W.heap.size := by obtain ⟨m, hm⟩ := k1; exact DataW.trod_lt m _ _ _ hm
  have hT := of_laid hL
  obtain ⟨cs, rfl, hsz⟩ := okWide_struct Tryd.underlying23 (hval 0 23 v0 rfl rfl)
  rw [cells23] at hsz
  obtain ⟨l⟩ := cs
  obtain ⟨y0, y1, rfl⟩ := two_of hsz
  have hf0 := h0
  obtain ⟨fuel, hf⟩ := hf0
  obtain ⟨z0, z1, m, hx, _, hy0, hy1⟩ := trod_struct2 Tryd.underlying23 hf
  obtain ⟨a, e0, _, wa⟩ := DataW.trod_int Tryd.underlying3 hy0
  obtain ⟨b, e1, _, wb⟩ := DataW.trod_int Tryd.underlying3 hy1
  simp [Value.cells, cells3] at e0 e1
  subst e0 e1
  obtain ⟨s, rfl⟩ := okWide_string Tryd.underlying9 (hval 1 9 v1 rfl rfl)
  clear hA0 hval0
  refine (walk a b s W hT (tabs_lt hT)).mono fun e W' ⟨he, bel⟩ => ?_
  subst he
  exact ⟨_, rfl, _, _, _, [], _, [], hW', trodAll_mk1 (shut_bool Tryd.underlying4 _), (trodAll_cons_mk (Below.trod laidOut (by kernel_rfl) (of_decide_eq_true (by kernel_rfl)) k0 bel lt0) (trodAll_cons_mk (Below.trod laidOut (by kernel_rfl) (of_decide_eq_true (by kernel_rfl)) k1 bel lt1) trodAll_mk0)), rfl, bel.frame _, fun h => by cases h⟩

theorem over : Rows.fnAdvancedRow.holds Tryd.pinned (OpenSpec.ofChange Rows.fnAdvancedSpec) :=
  OpenClaim.holds_of_wide 3 Tryd.f3 rfl rfl rfl rfl rfl rfl rfl ⟨rfl, rfl, rfl, rfl, rfl⟩ rfl rfl rfl rfl rfl (by kernel_rfl) Tryd.func3 (by kernel_rfl)
    (of_decide_eq_true (by kernel_rfl)) (by unfold Func.isWrapper; first | (rw [if_pos (by decide +kernel)]; kernel_rfl) | (rw [if_neg (by decide +kernel)]; exact ⟨rfl, rfl⟩))
    (fun os started H enc _ => lifted os started H enc)
theorem proved : Rows.FnAdvancedCardSaid :=
  Claim7.holds_tied_plain_at .later [] [.data, .pinned] true (true, "127119fa0b08cc80097585b09995a3f8c37a484879884d30b3281037ea992269") false
    over (fun _ h => by cases h) (by kernel_rfl) (fun _ h => by cases h) fnAdvanced_row_tie rfl ⟨rfl, rfl⟩ (by kernel_rfl) rfl
    (fun f fn hf hfn => by
      obtain rfl : f = 3 := Option.some.inj ((show Tryd.prog.funcNamed "given.example/pub-stylewright/laws.FnAdvanced" = some 3 by kernel_rfl).symm.trans hf) |>.symm
      obtain rfl : fn = Tryd.f3 := (Option.some.inj (Tryd.func3.symm.trans hfn)).symm
      exact ⟨by kernel_rfl, fun j t ht => by
        rw [Tryd.params3] at ht
        have hm : t ∈ [23, 9] := by simpa using Array.mem_of_getElem? ht
        have hall : ([23, 9].all fun u => !Tryd.prog.wantsStandIn u) = true := by kernel_rfl
        exact (show Tryd.prog.wantsStandIn t = false by simpa using List.all_eq_true.1 hall t hm)⟩)
    (by kernel_rfl)
end Go.Proofs.YtnmielbjdadggaaDoor.fnAdvanced
