/- FnSooner holds at every two places: no condition. -/
import Derived.Test.YtibkicllbfheiaaRows
import Derived.WalkKit
import Derived.WalkSpells
import Derived.WalkLawsBesides
import Derived.ProofKit
import Derived.OpenShut
import Derived.ShutString
import Derived.ChangeOld
import Derived.Below
import Derived.Lib.SmallJoins
import Derived.Deep.RegionHeld3
import Derived.Deep.MidRow
import Derived.Lib.QuietBelow
import Derived.BigQuiet
namespace Go.Proofs.Ytibkicllbfheiaa.fnSooner
open Go.ChangeShapes Go.WideShapes Go.ChangeAt Go.RowKit Go.Joins Go.Sort
open Go.ChangeMaps (open_string shut_string)
set_option linter.unusedVariables false

/-- impl.Sooner, one theorem a way. -/
theorem sooner_yes (a b c d : Int) (h : a < c ∨ (a = c ∧ b < d)) (w : World) :
    Calls Try.prog 7 #[.agg #[.int .i64 a, .int .i64 b], .agg #[.int .i64 c, .int .i64 d]] w fun e w' => e = .returned (.bool true) ∧ Below w.heap.size w w' := by
  rcases h with h | ⟨rfl, h⟩
  · go_enter Try.func7, Try.ntmps7
    go_wp2
    go_ret
    exact ⟨rfl, by repeat (first | exact Below.refl _ _ | refine Below.alloc ?_ (by simp; try omega) _ | apply Below.drew)⟩
  · have h1 : ¬ a < a := by omega
    go_enter Try.func7, Try.ntmps7
    go_wp2
    go_ret
    exact ⟨rfl, by repeat (first | exact Below.refl _ _ | refine Below.alloc ?_ (by simp; try omega) _ | apply Below.drew)⟩
theorem sooner_no (a b c d : Int) (h : c < a ∨ (a = c ∧ d ≤ b)) (w : World) :
    Calls Try.prog 7 #[.agg #[.int .i64 a, .int .i64 b], .agg #[.int .i64 c, .int .i64 d]] w fun e w' => e = .returned (.bool false) ∧ Below w.heap.size w w' := by
  rcases h with h | ⟨rfl, h⟩
  · have h1 : ¬ a < c := by omega
    have h2 : ¬ a = c := by omega
    have h3 : (a == c) = false := by simp; omega
    go_enter Try.func7, Try.ntmps7
    go_wp2
    go_ret
    exact ⟨rfl, by repeat (first | exact Below.refl _ _ | refine Below.alloc ?_ (by simp; try omega) _ | apply Below.drew)⟩
  · have h1 : ¬ a < a := by omega
    have h2 : ¬ b < d := by omega
    go_enter Try.func7, Try.ntmps7
    go_wp2
    go_ret
    exact ⟨rfl, by repeat (first | exact Below.refl _ _ | refine Below.alloc ?_ (by simp; try omega) _ | apply Below.drew)⟩

theorem walk (a b : Int) (_wa : (Lit.int .i64 a).wf = true) (_wb : (Lit.int .i64 b).wf = true) (c d : Int) (_wc : (Lit.int .i64 c).wf = true) (_wd : (Lit.int .i64 d).wf = true) (w : World) :
    Calls Try.prog 4 #[.agg #[.int .i64 a, .int .i64 b], .agg #[.int .i64 c, .int .i64 d]] w fun e w' => e = .returned (.bool true) ∧ Below w.heap.size w w' := by
  clear _wa _wb _wc _wd
  by_cases h1 : a < c
  · have d1 : decide (a < c) = true := by simpa using h1
    go_enter Try.func4, Try.ntmps4
    go_wp2_with fail
    have e0 : ((w.alloc (.cells #[.int .i64 a, .int .i64 b] 27)).alloc (.cells #[.int .i64 c, .int .i64 d] 27)).cell? ⟨w.heap.size, 0, none⟩ = some (.int .i64 a) := by simp
    have e1 : ((w.alloc (.cells #[.int .i64 a, .int .i64 b] 27)).alloc (.cells #[.int .i64 c, .int .i64 d] 27)).cell? ⟨w.heap.size, 1, none⟩ = some (.int .i64 b) := by simp
    have e2 : ((w.alloc (.cells #[.int .i64 a, .int .i64 b] 27)).alloc (.cells #[.int .i64 c, .int .i64 d] 27)).cell? ⟨w.heap.size + 1, 0, none⟩ = some (.int .i64 c) := by simp
    have e3 : ((w.alloc (.cells #[.int .i64 a, .int .i64 b] 27)).alloc (.cells #[.int .i64 c, .int .i64 d] 27)).cell? ⟨w.heap.size + 1, 1, none⟩ = some (.int .i64 d) := by simp
    have eb : Below w.heap.size w ((w.alloc (.cells #[.int .i64 a, .int .i64 b] 27)).alloc (.cells #[.int .i64 c, .int .i64 d] 27)) := below_alloc2 _ _ _
    revert e0 e1 e2 e3 eb
    generalize (w.alloc (.cells #[.int .i64 a, .int .i64 b] 27)).alloc (.cells #[.int .i64 c, .int .i64 d] 27) = W
    intro e0 e1 e2 e3 eb
    have k0 := cell_regrown e0
    have k1 := cell_regrown e1
    have k2 := cell_regrown e2
    have k3 := cell_regrown e3
    clear e0 e1 e2 e3
    refine wp_region_quiet_below (by kernel_rfl) (by kernel_rfl) ?_
    repeat (first | go_big_quiet_step ((first | exact Calls.regrown_of (sooner_yes _ _ _ _ (by omega) _) | exact Calls.regrown_of (sooner_no _ _ _ _ (by omega) _))) | quiet_step ((first | exact Calls.regrown_of (sooner_yes _ _ _ _ (by omega) _) | exact Calls.regrown_of (sooner_no _ _ _ _ (by omega) _))))
    refine wpQuiet_nil ?_
    intro _ hw'
    obtain ⟨⟨dq, osq⟩, hw''⟩ := hw'
    subst hw''
    go_wp2
    go_ret
    exact ⟨rfl, eb.trans ((below_regrown W dq osq).mono eb.size)⟩
  by_cases h2 : a = c
  · subst h2
    by_cases h3 : b < d
    · go_enter Try.func4, Try.ntmps4
      go_wp2_with fail
      have e0 : ((w.alloc (.cells #[.int .i64 a, .int .i64 b] 27)).alloc (.cells #[.int .i64 a, .int .i64 d] 27)).cell? ⟨w.heap.size, 0, none⟩ = some (.int .i64 a) := by simp
      have e1 : ((w.alloc (.cells #[.int .i64 a, .int .i64 b] 27)).alloc (.cells #[.int .i64 a, .int .i64 d] 27)).cell? ⟨w.heap.size, 1, none⟩ = some (.int .i64 b) := by simp
      have e2 : ((w.alloc (.cells #[.int .i64 a, .int .i64 b] 27)).alloc (.cells #[.int .i64 a, .int .i64 d] 27)).cell? ⟨w.heap.size + 1, 0, none⟩ = some (.int .i64 a) := by simp
      have e3 : ((w.alloc (.cells #[.int .i64 a, .int .i64 b] 27)).alloc (.cells #[.int .i64 a, .int .i64 d] 27)).cell? ⟨w.heap.size + 1, 1, none⟩ = some (.int .i64 d) := by simp
      have eb : Below w.heap.size w ((w.alloc (.cells #[.int .i64 a, .int .i64 b] 27)).alloc (.cells #[.int .i64 a, .int .i64 d] 27)) := below_alloc2 _ _ _
      revert e0 e1 e2 e3 eb
      generalize (w.alloc (.cells #[.int .i64 a, .int .i64 b] 27)).alloc (.cells #[.int .i64 a, .int .i64 d] 27) = W
      intro e0 e1 e2 e3 eb
      have k0 := cell_regrown e0
      have k1 := cell_regrown e1
      have k2 := cell_regrown e2
      have k3 := cell_regrown e3
      clear e0 e1 e2 e3
      refine wp_region_quiet_below (by kernel_rfl) (by kernel_rfl) ?_
      repeat (first | go_big_quiet_step ((first | exact Calls.regrown_of (sooner_yes _ _ _ _ (by omega) _) | exact Calls.regrown_of (sooner_no _ _ _ _ (by omega) _))) | quiet_step ((first | exact Calls.regrown_of (sooner_yes _ _ _ _ (by omega) _) | exact Calls.regrown_of (sooner_no _ _ _ _ (by omega) _))))
      refine wpQuiet_nil ?_
      intro _ hw'
      obtain ⟨⟨dq, osq⟩, hw''⟩ := hw'
      subst hw''
      go_wp2
      go_ret
      exact ⟨rfl, eb.trans ((below_regrown W dq osq).mono eb.size)⟩
    · have d3 : decide (b < d) = false := by simpa using h3
      go_enter Try.func4, Try.ntmps4
      go_wp2_with fail
      have e0 : ((w.alloc (.cells #[.int .i64 a, .int .i64 b] 27)).alloc (.cells #[.int .i64 a, .int .i64 d] 27)).cell? ⟨w.heap.size, 0, none⟩ = some (.int .i64 a) := by simp
      have e1 : ((w.alloc (.cells #[.int .i64 a, .int .i64 b] 27)).alloc (.cells #[.int .i64 a, .int .i64 d] 27)).cell? ⟨w.heap.size, 1, none⟩ = some (.int .i64 b) := by simp
      have e2 : ((w.alloc (.cells #[.int .i64 a, .int .i64 b] 27)).alloc (.cells #[.int .i64 a, .int .i64 d] 27)).cell? ⟨w.heap.size + 1, 0, none⟩ = some (.int .i64 a) := by simp
      have e3 : ((w.alloc (.cells #[.int .i64 a, .int .i64 b] 27)).alloc (.cells #[.int .i64 a, .int .i64 d] 27)).cell? ⟨w.heap.size + 1, 1, none⟩ = some (.int .i64 d) := by simp
      have eb : Below w.heap.size w ((w.alloc (.cells #[.int .i64 a, .int .i64 b] 27)).alloc (.cells #[.int .i64 a, .int .i64 d] 27)) := below_alloc2 _ _ _
      revert e0 e1 e2 e3 eb
      generalize (w.alloc (.cells #[.int .i64 a, .int .i64 b] 27)).alloc (.cells #[.int .i64 a, .int .i64 d] 27) = W
      intro e0 e1 e2 e3 eb
      have k0 := cell_regrown e0
      have k1 := cell_regrown e1
      have k2 := cell_regrown e2
      have k3 := cell_regrown e3
      clear e0 e1 e2 e3
      refine wp_region_quiet_below (by kernel_rfl) (by kernel_rfl) ?_
      repeat (first | go_big_quiet_step ((first | exact Calls.regrown_of (sooner_yes _ _ _ _ (by omega) _) | exact Calls.regrown_of (sooner_no _ _ _ _ (by omega) _))) | quiet_step ((first | exact Calls.regrown_of (sooner_yes _ _ _ _ (by omega) _) | exact Calls.regrown_of (sooner_no _ _ _ _ (by omega) _))))
      refine wpQuiet_nil ?_
      intro _ hw'
      obtain ⟨⟨dq, osq⟩, hw''⟩ := hw'
      subst hw''
      go_wp2
      go_ret
      exact ⟨rfl, eb.trans ((below_regrown W dq osq).mono eb.size)⟩
  · have d1 : decide (a < c) = false := by simpa using h1
    have d2 : (a == c) = false := by simpa using h2
    have h3 : c < a := by omega
    go_enter Try.func4, Try.ntmps4
    go_wp2_with fail
    have e0 : ((w.alloc (.cells #[.int .i64 a, .int .i64 b] 27)).alloc (.cells #[.int .i64 c, .int .i64 d] 27)).cell? ⟨w.heap.size, 0, none⟩ = some (.int .i64 a) := by simp
    have e1 : ((w.alloc (.cells #[.int .i64 a, .int .i64 b] 27)).alloc (.cells #[.int .i64 c, .int .i64 d] 27)).cell? ⟨w.heap.size, 1, none⟩ = some (.int .i64 b) := by simp
    have e2 : ((w.alloc (.cells #[.int .i64 a, .int .i64 b] 27)).alloc (.cells #[.int .i64 c, .int .i64 d] 27)).cell? ⟨w.heap.size + 1, 0, none⟩ = some (.int .i64 c) := by simp
    have e3 : ((w.alloc (.cells #[.int .i64 a, .int .i64 b] 27)).alloc (.cells #[.int .i64 c, .int .i64 d] 27)).cell? ⟨w.heap.size + 1, 1, none⟩ = some (.int .i64 d) := by simp
    have eb : Below w.heap.size w ((w.alloc (.cells #[.int .i64 a, .int .i64 b] 27)).alloc (.cells #[.int .i64 c, .int .i64 d] 27)) := below_alloc2 _ _ _
    revert e0 e1 e2 e3 eb
    generalize (w.alloc (.cells #[.int .i64 a, .int .i64 b] 27)).alloc (.cells #[.int .i64 c, .int .i64 d] 27) = W
    intro e0 e1 e2 e3 eb
    have k0 := cell_regrown e0
    have k1 := cell_regrown e1
    have k2 := cell_regrown e2
    have k3 := cell_regrown e3
    clear e0 e1 e2 e3
    refine wp_region_quiet_below (by kernel_rfl) (by kernel_rfl) ?_
    repeat (first | go_big_quiet_step ((first | exact Calls.regrown_of (sooner_yes _ _ _ _ (by omega) _) | exact Calls.regrown_of (sooner_no _ _ _ _ (by omega) _))) | quiet_step ((first | exact Calls.regrown_of (sooner_yes _ _ _ _ (by omega) _) | exact Calls.regrown_of (sooner_no _ _ _ _ (by omega) _))))
    refine wpQuiet_nil ?_
    intro _ hw'
    obtain ⟨⟨dq, osq⟩, hw''⟩ := hw'
    subst hw''
    go_wp2
    go_ret
    exact ⟨rfl, eb.trans ((below_regrown W dq osq).mono eb.size)⟩

theorem own : ownKnob Try.prog.godebug = none := by kernel_rfl
theorem laidOut : laidOutB Try.prog = true := by kernel_rfl
set_option maxRecDepth 100000 in
theorem lifted (os : Os) (started : os.Started) (H : Type) (enc : TypeId × Value → H) :
    ReturnsInHanded {} Try.checked os 4 .any (Rows.fnSoonerSpec.pre6 enc Try.prog Try.f4 Rows.fnSoonerRow.domain false) (Rows.fnSoonerSpec.post enc Try.prog Try.f4 false true false false) := by
  refine returnsInHanded_of_change (C := Try.checked) own started (by kernel_rfl) Try.func4
    (ChangeSpec.witness6 (enc := enc) (C := Try.checked) false ⟨#[], #[.agg #[.int .i64 0, .int .i64 0], .agg #[.int .i64 0, .int .i64 0]], []⟩ 8 (by kernel_rfl) (by kernel_rfl) (by kernel_rfl) (by kernel_rfl)) ?_
  intro W base args ds gs before hval0 hW hcnd _
  have hval : ∀ (j : Nat) t v, Try.f4.params[j]? = some t → args[j]? = some v → Value.okWide Try.prog W .any base t v := hval0
  have hW' := hW
  obtain ⟨p, q, hA0, hV, rfl, hfz, hnd⟩ := hW
  have hA : DataW.TrodAll enc Try.prog W 0 (fun _ => true) true Try.f4.params.toList args.toList ds p := hA0
  rw [Try.params4] at hA hval
  obtain ⟨v0, vs0, d0, ds0, p0, q0, hargs, rfl, rfl, h0, r0⟩ := trodAll_cons hA
  obtain ⟨v1, vs1, d1, ds1, p1, q1, rfl, rfl, rfl, h1, r1⟩ := trodAll_cons r0
  obtain ⟨rfl, rfl, rfl⟩ := trodAll_nil r1
  obtain rfl : args = #[v0, v1] := by cases args; simp_all
  obtain ⟨rfl, rfl⟩ := trodVars_none hV
  have k0 := h0
  have lt0 : ∀ x ∈ p0, x.block < W.heap.size := by obtain ⟨m, hm⟩ := k0; exact DataW.trod_lt m _ _ _ hm
  have k1 := h1
  have lt1 : ∀ x ∈ p1, x.block < W.heap.size := by obtain ⟨m, hm⟩ := k1; exact DataW.trod_lt m _ _ _ hm
  obtain ⟨c00, c01, y00, y01, m0, rfl, rfl, rfl, hy00, hy01⟩ := open_agg2 Try.underlying27 (by kernel_rfl) (by kernel_rfl) (hval 0 27 v0 rfl rfl) h0
  obtain ⟨a00, e00, rfl, w00⟩ := DataW.trod_int Try.underlying3 hy00
  obtain ⟨a01, e01, rfl, w01⟩ := DataW.trod_int Try.underlying3 hy01
  simp at e00 e01
  subst e00 e01
  obtain ⟨c10, c11, y10, y11, m1, rfl, rfl, rfl, hy10, hy11⟩ := open_agg2 Try.underlying27 (by kernel_rfl) (by kernel_rfl) (hval 1 27 v1 rfl rfl) h1
  obtain ⟨a10, e10, rfl, w10⟩ := DataW.trod_int Try.underlying3 hy10
  obtain ⟨a11, e11, rfl, w11⟩ := DataW.trod_int Try.underlying3 hy11
  simp at e10 e11
  subst e10 e11
  clear hA0 hval0
  refine (walk a00 a01 w00 w01 a10 a11 w10 w11 W).mono fun e W' ⟨he, bel⟩ => ?_
  subst he
  exact ⟨_, rfl, _, _, _, [], _, [], hW', trodAll_mk1 (shut_bool Try.underlying4 _), (trodAll_cons_mk (Below.trod laidOut (by kernel_rfl) (of_decide_eq_true (by kernel_rfl)) k0 bel lt0) (trodAll_cons_mk (Below.trod laidOut (by kernel_rfl) (of_decide_eq_true (by kernel_rfl)) k1 bel lt1) trodAll_mk0)), rfl, bel.frame _, fun h => by cases h⟩

theorem over : Rows.fnSoonerRow.holds Try.pinned (OpenSpec.ofChange Rows.fnSoonerSpec) :=
  OpenClaim.holds_of_wide 4 Try.f4 rfl rfl rfl rfl rfl rfl rfl ⟨rfl, rfl, rfl, rfl, rfl⟩ rfl rfl rfl rfl rfl (by kernel_rfl) Try.func4 (by kernel_rfl)
    (of_decide_eq_true (by kernel_rfl)) (by unfold Func.isWrapper; first | (rw [if_pos (by decide +kernel)]; kernel_rfl) | (rw [if_neg (by decide +kernel)]; exact ⟨rfl, rfl⟩))
    (fun os started H enc _ => lifted os started H enc)
theorem proved : Rows.FnSoonerSaid := over
#print axioms proved
end Go.Proofs.Ytibkicllbfheiaa.fnSooner
