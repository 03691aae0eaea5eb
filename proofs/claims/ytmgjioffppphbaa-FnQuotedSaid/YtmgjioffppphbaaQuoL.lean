/- FnQuoted holds for every text and either way: no condition. -/
import Derived.Test.YtmgjioffppphbaaQuoI
import Derived.Test.YtmgjioffppphbaaQuoS
import Derived.ProofKit
import Derived.OpenShut
import Derived.ShutString
import Derived.ChangeOld
namespace Go.Proofs.Ytmgjioffppphbaa.fnQuoted
open Go.ChangeShapes Go.WideShapes Go.ChangeAt Go.RowKit
open Go.ChangeMaps (open_string shut_string)
set_option linter.unusedVariables false
set_option linter.unusedSimpArgs false

theorem conv_any {w : World} {g cap base n : Nat} {q : ByteArray} (hn : q.size = n) (h : w.ownsRow base 5 1 (.slice (some ⟨g, 0, none⟩) n cap) n (numCells (nums q))) : (convert 31 9 (.slice (some ⟨g, 0, none⟩) n cap)).run Try.prog w = .ok (.string q) w := by
  have hl : q.data.toList.length = n := by simpa using hn
  have := run_convert_bytes_back (P := Try.prog) w 31 9 5 ⟨g, 0, none⟩ cap q.data.toList Try.underlying31 Try.underlying5 Try.underlying9 (fun j hj => by
    refine h.cells rfl j _ ?_
    simp [numCells, nums, List.getElem?_eq_getElem hj])
  rw [hl] at this
  exact this
theorem map_back : ∀ l : List Nat, (∀ b ∈ l, b < 256) → (l.map UInt8.ofNat).map UInt8.toNat = l
  | [], _ => rfl
  | b :: r, h => by
    have h1 := map_back r (fun x hx => h x (List.mem_cons_of_mem _ hx))
    have h2 : b % 256 = b := Nat.mod_eq_of_lt (h b (List.mem_cons_self ..))
    rw [List.map_cons, List.map_cons, h1, UInt8.toNat_ofNat']
    rw [h2]
theorem exists_text (l : List Nat) (h : ∀ b ∈ l, b < 256) : ∃ q : ByteArray, nums q = l :=
  ⟨⟨(l.map UInt8.ofNat).toArray⟩, by unfold nums; exact map_back l h⟩
theorem escFrom_lt {s : ByteArray} {a : Bool} (k : Nat) : ∀ pos, s.size - pos ≤ k → ∀ b ∈ escFrom s a pos, b < 256 := by
  induction k with
  | zero => intro pos hk b hb; rw [escFrom_end (by omega)] at hb; simp at hb
  | succ k ih =>
    intro pos hk b hb
    by_cases hp : pos < s.size
    · have hw := decode_wide s pos
      rw [escFrom_step hp] at hb
      rcases List.mem_append.1 hb with hb | hb
      · unfold escAt at hb
        split at hb
        · exact nums_lt s b (List.mem_of_mem_drop (List.mem_of_mem_take hb))
        · have := esc_ascii _ b hb; omega
      · exact ih _ (by omega) b hb
    · rw [escFrom_end hp] at hb; simp at hb
set_option maxRecDepth 100000 in
set_option maxHeartbeats 4000000 in
theorem forJSON_any (s : ByteArray) (a : Bool) (w : World) (hg : Good s 0) (hs : s.size ≤ 300) : Calls Try.prog 7 #[.string s, .bool a] w (QuoTold s a w) := by
  have C := Lib.hid (quote_any s a w hg hs)
  clear hg
  go_enter Try.func7, Try.ntmps7
  go_wp2_with (go_at_call 10; refine C.out.mono ?_; rintro e w1 ⟨g, cap, rfl, ho, hb⟩; have HO := Lib.hid ho; have HB := Lib.hid hb; clear ho hb)
  go_ret
  exact ⟨g, cap, rfl, HO.out, HB.out⟩
set_option maxRecDepth 100000 in
set_option maxHeartbeats 4000000 in
theorem quoted_any (s : ByteArray) (a : Bool) (w : World) (hg : Good s 0) (hs : s.size ≤ 300) : ∃ q : ByteArray, nums q = 34 :: (escFrom s a 0 ++ [34]) ∧ Calls Try.prog 5 #[.string s, .bool a] w fun e w' => e = .returned (.string q) ∧ Below w.heap.size w w' := by
  have hlt : ∀ b ∈ 34 :: (escFrom s a 0 ++ [34]), b < 256 := fun b hb => by
    rcases List.mem_cons.1 hb with rfl | hb
    · omega
    · rcases List.mem_append.1 hb with hb | hb
      · exact escFrom_lt s.size 0 (by omega) b hb
      · simp at hb; omega
  obtain ⟨q, hq⟩ := exists_text _ hlt
  refine ⟨q, hq, ?_⟩
  have hqs : q.size = (escFrom s a 0).length + 2 := by rw [← nums_len, hq]; simp
  have C := Lib.hid (forJSON_any s a w hg hs)
  have HQ := Lib.hid hq
  have HS := Lib.hid hqs
  clear hq hlt hg hqs
  go_enter Try.func5, Try.ntmps5
  go_wp2_with (go_at_call 7; refine C.out.mono ?_; rintro e w1 ⟨g, cap, rfl, ho, hb⟩; have hcv := conv_any HS.out (by rw [HQ.out]; exact ho); have HB := Lib.hid hb; clear ho hb)
  go_ret
  exact ⟨rfl, HB.out⟩
set_option maxRecDepth 100000 in
set_option maxHeartbeats 4000000 in
theorem walk (s : ByteArray) (a : Bool) (w : World) : Calls Try.prog 3 #[.string s, .bool a] w fun e w' => e = .returned (.bool true) ∧ Below w.heap.size w w' := by
  by_cases h1 : 2147483647 < s.size
  · have t1 : decide ((2147483647 : Int) < (s.size : Int)) = true := by simp; omega
    go_enter Try.func3, Try.ntmps3
    go_wp2_with fail
    go_ret
    exact ⟨rfl, Below.refl _ _⟩
  · have t1 : decide ((2147483647 : Int) < (s.size : Int)) = false := by simp; omega
    have CU := units_any s w (by omega)
    cases hu : unitsFrom s 0 with
    | none =>
      have C : Calls Try.prog 4 #[.string s] w fun e w' => e = .returned (.tuple #[.slice none 0 0, .bool false]) ∧ Below w.heap.size w w' := CU.mono fun e w' h => by
        rcases h.2 with ⟨_, h2⟩ | ⟨l, v, h2, _⟩
        · exact ⟨h2, h.1⟩
        · rw [hu] at h2; cases h2
      clear CU hu h1
      go_enter Try.func3, Try.ntmps3
      go_wp2_with (go_at_call 4; refine C.mono ?_; rintro e w1 ⟨rfl, hb⟩)
      go_ret
      exact ⟨rfl, hb⟩
    | some l =>
      have hg : Good s 0 := ⟨l, hu⟩
      have C : Calls Try.prog 4 #[.string s] w fun e w' => ∃ v, e = .returned (.tuple #[v, .bool true]) ∧ Below w.heap.size w w' := CU.mono fun e w' h => by
        rcases h.2 with ⟨h2, _⟩ | ⟨l2, v, h2, _, h3, _⟩
        · rw [hu] at h2; cases h2
        · exact ⟨v, h3, h.1⟩
      clear CU hu h1
      have HC := Lib.hid C
      clear C
      by_cases h3 : 300 < s.size
      · have t3 : decide ((300 : Int) < (s.size : Int)) = true := by simp; omega
        clear hg h3
        go_enter Try.func3, Try.ntmps3
        go_wp2_with (go_at_call 4; refine HC.out.mono ?_; rintro e w1 ⟨v, rfl, hb⟩)
        go_ret
        exact ⟨rfl, hb⟩
      · have t3 : decide ((300 : Int) < (s.size : Int)) = false := by simp; omega
        obtain ⟨q, hq, _⟩ := quoted_any s a w hg (by omega)
        have C5 := Lib.hid (fun W : World => by
          obtain ⟨q2, hq2, h⟩ := quoted_any s a W hg (by omega)
          obtain rfl : q2 = q := nums_inj (hq2.trans hq.symm)
          exact h)
        have C6 := Lib.hid (fun W : World => read_any s q a W hq hg (by omega))
        have hasc : a = true → ∀ i (hi : i < q.size), (q[i]'hi).toNat ≤ 126 := fun ha i hi => by
          have hb := List.mem_of_getElem? (nums_at q i hi)
          rw [hq] at hb
          subst ha
          rcases List.mem_cons.1 hb with e | hb
          · rw [e]; omega
          · rcases List.mem_append.1 hb with hb | hb
            · exact escFrom_ascii s.size 0 (by omega) hg _ hb
            · simp at hb; omega
        have hqs : q.size ≤ 10000 := by
          have h2 := escFrom_len (a := a) s.size 0 (by omega) (Nat.zero_le _) hg
          rw [← nums_len, hq]; simp; omega
        have HA := Lib.hid hasc
        clear hasc hq hg h3
        go_enter Try.func3, Try.ntmps3
        go_wp2_with (first | (go_at_call 4; refine HC.out.mono ?_; rintro e w1 ⟨v, rfl, hb1⟩; have HB1 := Lib.hid hb1; clear hb1) | (go_at_call 5; refine (C5.out _).mono ?_; rintro e w2 ⟨rfl, hb2⟩; have HB2 := Lib.hid (HB1.out.trans (hb2.mono HB1.out.size)); clear hb2) | (go_at_call 6; refine (C6.out _).mono ?_; rintro e w3 ⟨rfl, hb3⟩; have HB3 := Lib.hid (HB2.out.trans (hb3.mono HB2.out.size)); clear hb3))
        go_loopw [43] (fun iv W => ∃ i : Nat, i ≤ q.size ∧ iv = .int .i64 i ∧ Hid (Below w.heap.size w W)) (fun iv _ => q.size - (intOf iv).toNat)
        case atStart => exact ⟨0, Nat.zero_le _, rfl, HB3⟩
        case round =>
          obtain ⟨i, hi, rfl, HB⟩ := hrel
          by_cases hiq : i < q.size
          · cases a with
            | true =>
              have hb := HA.out rfl i hiq
              have t4 : decide ((126 : Int) < (((q[i]'hiq).toNat : Nat) : Int)) = false := by simp; omega
              clear hb
              go_wp2_with fail
              go_roundw
              case rel => exact ⟨i + 1, by omega, by go_num, HB⟩
              case measure => simp [intOf]; omega
            | false =>
              go_wp2_with fail
              go_roundw
              case rel => exact ⟨i + 1, by omega, by go_num, HB⟩
              case measure => simp [intOf]; omega
          · go_wp2_with fail
            go_ret
            exact ⟨rfl, HB.out⟩

theorem own : ownKnob Try.prog.godebug = none := by kernel_rfl
theorem laidOut : laidOutB Try.prog = true := by kernel_rfl
set_option maxRecDepth 100000 in
theorem lifted (os : Os) (started : os.Started) (H : Type) (enc : TypeId × Value → H) :
    ReturnsInHanded {} Try.checked os 3 .any (Rows.fnQuotedSpec.pre6 enc Try.prog Try.f3 Rows.fnQuotedRow.domain false) (Rows.fnQuotedSpec.post enc Try.prog Try.f3 false true false false) := by
  refine returnsInHanded_of_change (C := Try.checked) own started (by kernel_rfl) Try.func3
    (ChangeSpec.witness6 (enc := enc) (C := Try.checked) false ⟨#[], #[.string ByteArray.empty, .bool false], []⟩ 8 (by kernel_rfl) (by kernel_rfl) (by kernel_rfl) (by kernel_rfl)) ?_
  intro W base args ds gs before hval0 hW hcnd _
  have hval : ∀ (j : Nat) t v, Try.f3.params[j]? = some t → args[j]? = some v → Value.okWide Try.prog W .any base t v := hval0
  have hW' := hW
  obtain ⟨p, q, hA0, hV, rfl, hfz, hnd⟩ := hW
  have hA : DataW.TrodAll enc Try.prog W 0 (fun _ => true) true Try.f3.params.toList args.toList ds p := hA0
  rw [Try.params3] at hA hval
  obtain ⟨v0, vs0, d0, ds0, p0, q0, hargs, rfl, rfl, h0, r0⟩ := trodAll_cons hA
  obtain ⟨v1, vs1, d1, ds1, p1, q1, rfl, rfl, rfl, h1, r1⟩ := trodAll_cons r0
  obtain ⟨rfl, rfl, rfl⟩ := trodAll_nil r1
  obtain rfl : args = #[v0, v1] := by cases args; simp_all
  obtain ⟨rfl, rfl⟩ := trodVars_none hV
  have k0 := h0
  have lt0 : ∀ x ∈ p0, x.block < W.heap.size := by obtain ⟨m, hm⟩ := k0; exact DataW.trod_lt m _ _ _ hm
  have k1 := h1
  have lt1 : ∀ x ∈ p1, x.block < W.heap.size := by obtain ⟨m, hm⟩ := k1; exact DataW.trod_lt m _ _ _ hm
  obtain ⟨a0, rfl, rfl, rfl, u0⟩ := open_string Try.underlying9 (hval 0 9 v0 rfl rfl) h0
  obtain ⟨a1, rfl, rfl, rfl⟩ := open_bool Try.underlying4 (hval 1 4 v1 rfl rfl) h1
  clear hA0 hval0
  refine (walk a0 a1 W).mono fun e W' ⟨he, bel⟩ => ?_
  subst he
  exact ⟨_, rfl, _, _, _, [], _, [], hW', trodAll_mk1 (shut_bool Try.underlying4 _), (trodAll_cons_mk (Below.trod laidOut (by kernel_rfl) (of_decide_eq_true (by kernel_rfl)) k0 bel lt0) (trodAll_cons_mk (Below.trod laidOut (by kernel_rfl) (of_decide_eq_true (by kernel_rfl)) k1 bel lt1) trodAll_mk0)), rfl, bel.frame _, fun h => by cases h⟩

theorem over : Rows.fnQuotedRow.holds Try.pinned (OpenSpec.ofChange Rows.fnQuotedSpec) :=
  OpenClaim.holds_of_wide 3 Try.f3 rfl rfl rfl rfl rfl rfl rfl ⟨rfl, rfl, rfl, rfl, rfl⟩ rfl rfl rfl rfl rfl (by kernel_rfl) Try.func3 (by kernel_rfl)
    (of_decide_eq_true (by kernel_rfl)) (by unfold Func.isWrapper; first | (rw [if_pos (by decide +kernel)]; kernel_rfl) | (rw [if_neg (by decide +kernel)]; exact ⟨rfl, rfl⟩))
    (fun os started H enc _ => lifted os started H enc)
theorem proved : Rows.FnQuotedSaid := over
#print axioms proved
end Go.Proofs.Ytmgjioffppphbaa.fnQuoted
