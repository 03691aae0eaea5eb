/- FnVLQ holds at every text ahead, number and text behind: no condition. -/
import Derived.Test.YtglaomeebpidlaaImpl
import Derived.Test.YtglaomeebpidlaaDec16
import Derived.Test.YtglaomeebpidlaaUnits
import Derived.ProofKit
import Derived.OpenShut
import Derived.ShutString
import Derived.ChangeOld
namespace Go.Proofs.Ytglaomeebpidlaa.fnVLQ
open Go.ChangeShapes Go.WideShapes Go.ChangeAt Go.RowKit
open Go.ChangeMaps (open_string shut_string)
set_option linter.unusedVariables false
set_option linter.unusedSimpArgs false

set_option maxRecDepth 100000 in
set_option maxHeartbeats 4000000 in
theorem vlq16_any (b off n cap : Nat) (E : List Nat) (rest : List Nat) (V : Nat) (w : World) (hn : E.length = n) (hn2 : n ≤ 1000) (hc : ∀ j (h : j < E.length), w.cell? ⟨b, off + j, none⟩ = some (.int .u16 (E[j]'h : Int)))
    (hE : E = (letters (digs V)).map UInt8.toNat ++ rest) (hV : V < 2147483648) :
    Calls Try.prog 7 #[.slice (some ⟨b, off, none⟩) n cap] w fun e w' => e = .returned (.tuple #[.int .i64 (numOf V), .int .i64 ((digs V).length : Int), .bool true]) ∧ w = w' := by
  have C := dec16_any b off n cap E rest V w hn hn2 hc hE hV
  have h1 : -1073741825 < numOf V ∧ numOf V < 1073741824 := by unfold numOf; split <;> omega
  obtain ⟨x, hx⟩ : ∃ x, x = numOf V := ⟨_, rfl⟩
  rw [← hx] at C h1 ⊢
  obtain ⟨L, hL⟩ : ∃ L, L = (digs V).length := ⟨_, rfl⟩
  rw [← hL] at C ⊢
  have C := Lib.hid C
  clear hc hE hx hL hn
  obtain ⟨hx1, hx2⟩ := h1
  go_enter Try.func7, Try.ntmps7
  go_wp2_with (go_at_call 11; refine C.out.mono ?_; rintro e w' ⟨rfl, rfl⟩)
  go_ret3
  exact ⟨rfl, rfl⟩
theorem numOf_of (n : Int) (V : Nat) (hV : (if n < 0 then 2 * (-n) + 1 else 2 * n) = (V : Int)) : numOf V = n := by
  unfold numOf
  split at hV <;> split <;> omega
theorem ext_bytes {a b : ByteArray} (h : a.data.toList = b.data.toList) : a = b := ByteArray.ext (Array.toList_inj.1 h)
theorem letter_lt (d : Nat) (h : d < 64) : (letter d).toNat < 128 := by
  have : ∀ d : Fin 64, (letter d.1).toNat < 128 := by decide +kernel
  exact this ⟨d, h⟩
/-- What spec.Units tells of the letters with a text behind them. -/
theorem units_of (V : Nat) (T b : ByteArray) (hT : T.data.toList = letters (digs V)) : unitsFrom (T ++ b) 0 = (unitsFrom (T ++ b) (0 + (letters (digs V)).length)).map ((letters (digs V)).map UInt8.toNat ++ ·) := by
  refine units_ascii (T ++ b) (letters (digs V)) (fun x hx => ?_) b.data.toList 0 (by simp [hT])
  obtain ⟨d, hd, rfl⟩ := List.mem_map.1 hx
  exact letter_lt d (digs_lt V d hd)
set_option maxRecDepth 100000 in
set_option maxHeartbeats 4000000 in
theorem out1 (a b : ByteArray) (n : Int) (w : World) (h : 2147483647 < a.size) : Calls Try.prog 3 #[.string a, .int .i64 n, .string b] w fun e w' => e = .returned (.bool true) ∧ Below w.heap.size w w' := by
  have t1 : decide ((2147483647 : Int) < (a.size : Int)) = true := by simp; omega
  clear h
  go_enter Try.func3, Try.ntmps3
  go_wp2_with fail
  go_ret
  exact ⟨rfl, Below.refl _ _⟩
set_option maxRecDepth 100000 in
set_option maxHeartbeats 4000000 in
theorem out2 (a b : ByteArray) (n : Int) (w : World) (h1 : ¬ 2147483647 < a.size) (h : 2147483647 < b.size) : Calls Try.prog 3 #[.string a, .int .i64 n, .string b] w fun e w' => e = .returned (.bool true) ∧ Below w.heap.size w w' := by
  have t1 : decide ((2147483647 : Int) < (a.size : Int)) = false := by simp; omega
  have t2 : decide ((2147483647 : Int) < (b.size : Int)) = true := by simp; omega
  clear h h1
  go_enter Try.func3, Try.ntmps3
  go_wp2_with fail
  go_ret
  exact ⟨rfl, Below.refl _ _⟩
set_option maxRecDepth 100000 in
set_option maxHeartbeats 4000000 in
theorem out3 (a b : ByteArray) (n : Int) (w : World) (h1 : ¬ 2147483647 < a.size) (h2 : ¬ 2147483647 < b.size) (h : n ≤ -1073741824 ∨ 1073741824 ≤ n ∨ 50 < a.size ∨ 50 < b.size) : Calls Try.prog 3 #[.string a, .int .i64 n, .string b] w fun e w' => e = .returned (.bool true) ∧ Below w.heap.size w w' := by
  have t1 : decide ((2147483647 : Int) < (a.size : Int)) = false := by simp; omega
  have t2 : decide ((2147483647 : Int) < (b.size : Int)) = false := by simp; omega
  by_cases c1 : n ≤ -1073741824
  · have t3 : decide (n ≤ -1073741824) = true := by simpa using c1
    clear h h1 h2 c1
    go_enter Try.func3, Try.ntmps3
    go_wp2_with fail
    go_ret
    exact ⟨rfl, Below.refl _ _⟩
  · have t3 : decide (n ≤ -1073741824) = false := by simpa using c1
    by_cases c2 : 1073741824 ≤ n
    · have t4 : decide (1073741824 ≤ n) = true := by simpa using c2
      clear h h1 h2 c1 c2
      go_enter Try.func3, Try.ntmps3
      go_wp2_with fail
      go_ret
      exact ⟨rfl, Below.refl _ _⟩
    · have t4 : decide (1073741824 ≤ n) = false := by simpa using c2
      by_cases c3 : 50 < a.size
      · have t5 : decide ((50 : Int) < (a.size : Int)) = true := by simp; omega
        clear h h1 h2 c1 c2 c3
        go_enter Try.func3, Try.ntmps3
        go_wp2_with fail
        go_ret
        exact ⟨rfl, Below.refl _ _⟩
      · have t5 : decide ((50 : Int) < (a.size : Int)) = false := by simp; omega
        have t6 : decide ((50 : Int) < (b.size : Int)) = true := by simp; omega
        clear h h1 h2 c1 c2 c3
        go_enter Try.func3, Try.ntmps3
        go_wp2_with fail
        go_ret
        exact ⟨rfl, Below.refl _ _⟩
set_option maxRecDepth 100000 in
set_option maxHeartbeats 4000000 in
theorem main (a b : ByteArray) (n : Int) (w : World) (h1 : a.size ≤ 50) (h2 : b.size ≤ 50) (h3 : -1073741824 < n) (h4 : n < 1073741824) : Calls Try.prog 3 #[.string a, .int .i64 n, .string b] w fun e w' => e = .returned (.bool true) ∧ Below w.heap.size w w' := by
  have t1 : decide ((2147483647 : Int) < (a.size : Int)) = false := by simp; omega
  have t2 : decide ((2147483647 : Int) < (b.size : Int)) = false := by simp; omega
  have t3 : decide (n ≤ -1073741824) = false := by simp; omega
  have t4 : decide (1073741824 ≤ n) = false := by simp; omega
  have t5 : decide ((50 : Int) < (a.size : Int)) = false := by simp; omega
  have t6 : decide ((50 : Int) < (b.size : Int)) = false := by simp; omega
  obtain ⟨V, hV⟩ : ∃ V : Nat, (if n < 0 then 2 * (-n) + 1 else 2 * n) = (V : Int) := ⟨(if n < 0 then 2 * (-n) + 1 else 2 * n).toNat, by split <;> omega⟩
  have hV31 : V < 2147483648 := by split at hV <;> omega
  have hnum := numOf_of n V hV
  obtain ⟨T, hT⟩ : ∃ T : ByteArray, T = ⟨(letters (digs V)).toArray⟩ := ⟨_, rfl⟩
  have hTl : T.data.toList = letters (digs V) := by rw [hT]
  have hTs : T.size = (digs V).length := by have h := congrArg List.length hTl; simp [letters] at h; exact h
  have hdl := digs_len V 6 (by omega)
  have hdp := digs_pos V
  have CE := fun w => enc_any n V hV hV31 w
  rw [← hT] at CE
  have CV := fun w => vlq_any (a ++ T ++ b) a.size V b.data.toList w (by simp [ByteArray.size_append]; omega) (by simp [hTl]) hV31
  rw [hnum, ← hTs] at CV
  have HE := Lib.hid CE
  have HV := Lib.hid CV
  have HU := units_of V T b hTl
  have hT7 : T.size ≤ 7 := by omega
  have hT0 : 0 < T.size := by omega
  have e9 : ((n : Int) != n) = false := by simp
  cases hU : unitsFrom (T ++ b) 0 with
  | none =>
    have CU : ∀ w, Calls Try.prog 6 #[.string (T ++ b)] w fun e w' => e = .returned (.tuple #[.slice none 0 0, .bool false]) ∧ Below w.heap.size w w' := fun w => (units_any (T ++ b) w (by simp [ByteArray.size_append]; omega)).mono fun e w' h => by
      rcases h with ⟨hb, ⟨_, he⟩ | ⟨l, v, hs, _⟩⟩
      · exact ⟨he, hb⟩
      · rw [hU] at hs; cases hs
    have HCU := Lib.hid CU
    clear CU CE CV HU hU hV hT hTl hTs hnum hdl hdp h3 h4
    go_enter Try.func3, Try.ntmps3
    go_wp2_with (first | (go_at_call 4; refine (HE.out _).mono ?_; rintro e w1 ⟨rfl, rfl⟩) | (go_at_call 5; refine (HV.out _).mono ?_; rintro e w2 ⟨rfl, hb2⟩) | (go_at_call 6; refine (HCU.out _).mono ?_; rintro e w3 ⟨rfl, hb3⟩))
    go_ret
    exact ⟨rfl, hb2.trans (hb3.mono hb2.size)⟩
  | some l =>
    rw [hU] at HU
    obtain ⟨rest, hrest⟩ : ∃ rest, l = (letters (digs V)).map UInt8.toNat ++ rest := by
      cases h : unitsFrom (T ++ b) (0 + (letters (digs V)).length) with
      | none => rw [h] at HU; cases HU
      | some r => rw [h] at HU; exact ⟨r, by simpa using HU⟩
    have hl0 : 0 < l.length := by rw [hrest, List.length_append]; simp [letters]; omega
    have CU : ∀ w, Calls Try.prog 6 #[.string (T ++ b)] w fun e w' => ∃ g cap, e = .returned (.tuple #[.slice (some ⟨g, 0, none⟩) l.length cap, .bool true]) ∧ Hid (∀ j (h : j < l.length), w'.cell? ⟨g, 0 + j, none⟩ = some (.int .u16 (l[j]'h : Int))) ∧ Below w.heap.size w w' := fun w => (units_any (T ++ b) w (by simp [ByteArray.size_append]; omega)).mono fun e w' h => by
      rcases h with ⟨hb, ⟨hn, _⟩ | ⟨l', v, hs, _, he, hO⟩⟩
      · rw [hU] at hn; cases hn
      · rw [hU] at hs
        obtain rfl := Option.some.inj hs
        rcases hO.2 with ⟨_, h0⟩ | ⟨g, cap, cur, rfl, _⟩
        · omega
        · refine ⟨g, cap, he, fun j hj => ?_, hb⟩
          have h1 := hO.cells (g := g) rfl j (.int .u16 (l[j] : Int)) (by unfold cellsOf; rw [List.getElem?_map, List.getElem?_eq_getElem hj]; rfl)
          have e1 : (⟨g, 0, none⟩ : Addr).add j = ⟨g, 0 + j, none⟩ := by unfold Addr.add; split <;> simp_all
          rw [e1] at h1
          exact h1
    have hl9 : l.length ≤ 2 * (T ++ b).size := by
      exact units_le hU
    rw [ByteArray.size_append] at hl9
    have C7 : ∀ g cap w', Hid (∀ j (h : j < l.length), w'.cell? ⟨g, 0 + j, none⟩ = some (.int .u16 (l[j]'h : Int))) → Calls Try.prog 7 #[.slice (some ⟨g, 0, none⟩) l.length cap] w' fun e w'' => e = .returned (.tuple #[.int .i64 n, .int .i64 (T.size : Int), .bool true]) ∧ w' = w'' := fun g cap w' hc => by
      have := vlq16_any g 0 l.length cap l rest V w' rfl (by omega) hc.out hrest hV31
      rw [hnum, ← hTs] at this
      exact this
    have HCU := Lib.hid CU
    have HC7 := Lib.hid C7
    clear CU CE CV HU hU hV hT hTl hTs hnum hdl hdp h3 h4 hrest hl0 hl9 C7
    go_enter Try.func3, Try.ntmps3
    go_wp2_with (first | (go_at_call 4; refine (HE.out _).mono ?_; rintro e w1 ⟨rfl, rfl⟩) | (go_at_call 5; refine (HV.out _).mono ?_; rintro e w2 ⟨rfl, hb2⟩) | (go_at_call 6; refine (HCU.out _).mono ?_; rintro e w3 ⟨g, cap, rfl, hc3, hb3⟩) | (go_at_call 7; refine (HC7.out _ _ _ hc3).mono ?_; rintro e w4 ⟨rfl, rfl⟩))
    go_ret
    exact ⟨rfl, hb2.trans (hb3.mono hb2.size)⟩

theorem walk (a b : ByteArray) (n : Int) (w : World) : Calls Try.prog 3 #[.string a, .int .i64 n, .string b] w fun e w' => e = .returned (.bool true) ∧ Below w.heap.size w w' := by
  by_cases h1 : 2147483647 < a.size
  · exact out1 a b n w h1
  by_cases h2 : 2147483647 < b.size
  · exact out2 a b n w h1 h2
  by_cases h3 : n ≤ -1073741824 ∨ 1073741824 ≤ n ∨ 50 < a.size ∨ 50 < b.size
  · exact out3 a b n w h1 h2 h3
  · exact main a b n w (by omega) (by omega) (by omega) (by omega)

theorem own : ownKnob Try.prog.godebug = none := by kernel_rfl
theorem laidOut : laidOutB Try.prog = true := by kernel_rfl
set_option maxRecDepth 100000 in
theorem lifted (os : Os) (started : os.Started) (H : Type) (enc : TypeId × Value → H) :
    ReturnsInHanded {} Try.checked os 3 .any (Rows.fnVLQSpec.pre6 enc Try.prog Try.f3 Rows.fnVLQRow.domain false) (Rows.fnVLQSpec.post enc Try.prog Try.f3 false true false false) := by
  refine returnsInHanded_of_change (C := Try.checked) own started (by kernel_rfl) Try.func3
    (ChangeSpec.witness6 (enc := enc) (C := Try.checked) false ⟨#[], #[.string ByteArray.empty, .int .i64 0, .string ByteArray.empty], []⟩ 8 (by kernel_rfl) (by kernel_rfl) (by kernel_rfl) (by kernel_rfl)) ?_
  intro W base args ds gs before hval0 hW hcnd _
  have hval : ∀ (j : Nat) t v, Try.f3.params[j]? = some t → args[j]? = some v → Value.okWide Try.prog W .any base t v := hval0
  have hW' := hW
  obtain ⟨p, q, hA0, hV, rfl, hfz, hnd⟩ := hW
  have hA : DataW.TrodAll enc Try.prog W 0 (fun _ => true) true Try.f3.params.toList args.toList ds p := hA0
  rw [Try.params3] at hA hval
  obtain ⟨v0, vs0, d0, ds0, p0, q0, hargs, rfl, rfl, h0, r0⟩ := trodAll_cons hA
  obtain ⟨v1, vs1, d1, ds1, p1, q1, rfl, rfl, rfl, h1, r1⟩ := trodAll_cons r0
  obtain ⟨v2, vs2, d2, ds2, p2, q2, rfl, rfl, rfl, h2, r2⟩ := trodAll_cons r1
  obtain ⟨rfl, rfl, rfl⟩ := trodAll_nil r2
  obtain rfl : args = #[v0, v1, v2] := by cases args; simp_all
  obtain ⟨rfl, rfl⟩ := trodVars_none hV
  have k0 := h0
  have lt0 : ∀ x ∈ p0, x.block < W.heap.size := by obtain ⟨m, hm⟩ := k0; exact DataW.trod_lt m _ _ _ hm
  have k1 := h1
  have lt1 : ∀ x ∈ p1, x.block < W.heap.size := by obtain ⟨m, hm⟩ := k1; exact DataW.trod_lt m _ _ _ hm
  have k2 := h2
  have lt2 : ∀ x ∈ p2, x.block < W.heap.size := by obtain ⟨m, hm⟩ := k2; exact DataW.trod_lt m _ _ _ hm
  obtain ⟨a0, rfl, rfl, rfl, u0⟩ := open_string Try.underlying9 (hval 0 9 v0 rfl rfl) h0
  obtain ⟨a1, rfl, rfl, rfl, u1⟩ := open_int Try.underlying3 (hval 1 3 v1 rfl rfl) h1
  obtain ⟨a2, rfl, rfl, rfl, u2⟩ := open_string Try.underlying9 (hval 2 9 v2 rfl rfl) h2
  clear hA0 hval0
  refine (walk a0 a2 a1 W).mono fun e W' ⟨he, bel⟩ => ?_
  subst he
  exact ⟨_, rfl, _, _, _, [], _, [], hW', trodAll_mk1 (shut_bool Try.underlying4 _), (trodAll_cons_mk (Below.trod laidOut (by kernel_rfl) (of_decide_eq_true (by kernel_rfl)) k0 bel lt0) (trodAll_cons_mk (Below.trod laidOut (by kernel_rfl) (of_decide_eq_true (by kernel_rfl)) k1 bel lt1) (trodAll_cons_mk (Below.trod laidOut (by kernel_rfl) (of_decide_eq_true (by kernel_rfl)) k2 bel lt2) trodAll_mk0))), rfl, bel.frame _, fun h => by cases h⟩

theorem over : Rows.fnVLQRow.holds Try.pinned (OpenSpec.ofChange Rows.fnVLQSpec) :=
  OpenClaim.holds_of_wide 3 Try.f3 rfl rfl rfl rfl rfl rfl rfl ⟨rfl, rfl, rfl, rfl, rfl⟩ rfl rfl rfl rfl rfl (by kernel_rfl) Try.func3 (by kernel_rfl)
    (of_decide_eq_true (by kernel_rfl)) (by unfold Func.isWrapper; first | (rw [if_pos (by decide +kernel)]; kernel_rfl) | (rw [if_neg (by decide +kernel)]; exact ⟨rfl, rfl⟩))
    (fun os started H enc _ => lifted os started H enc)
theorem proved : Rows.FnVLQSaid := over
#print axioms proved
end Go.Proofs.Ytglaomeebpidlaa.fnVLQ
