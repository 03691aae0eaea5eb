/- FnJoiner holds for every texts and newline: no condition. -/
import Derived.Test.YtfpfpdjnmfiffaaJoinI
import Derived.ProofKit
import Derived.OpenShut
import Derived.ShutString
import Derived.ChangeOld
import Derived.SliceStrings
namespace Go.Proofs.Ytfpfpdjnmfiffaa.fnJoiner
open Go.ChangeShapes Go.WideShapes Go.ChangeAt Go.RowKit
open Go.ChangeMaps (open_string shut_string)
set_option linter.unusedVariables false
set_option linter.unusedSimpArgs false

theorem ext_bytes {a b : ByteArray} (h : a.data.toList = b.data.toList) : a = b := ByteArray.ext (Array.toList_inj.1 h)
theorem not_empty {W : ByteArray} (h0 : 0 < W.size) : W.toList.isEmpty = false := by
  rw [Lib.toList_data]
  cases h : W.data.toList with
  | nil => have : W.data.toList.length = W.size := by simp
           rw [h] at this; simp at this; omega
  | cons x t => rfl
theorem ten_at (T : ByteArray) (h : T.size < (T ++ ⟨#[10]⟩ : ByteArray).size) : ((T ++ ⟨#[10]⟩ : ByteArray)[T.size]'h).toNat = 10 := by
  have h1 : (T ++ ⟨#[10]⟩ : ByteArray).data.toList[T.size]? = some 10 := by
    rw [show (T ++ ⟨#[10]⟩ : ByteArray).data.toList = T.data.toList ++ [10] by simp, List.getElem?_append_right (by simp)]
    simp
  rw [List.getElem?_eq_getElem (by simp)] at h1
  have h2 : ((T ++ ⟨#[10]⟩ : ByteArray)[T.size]'h) = 10 := Option.some.inj h1
  rw [h2]; rfl
theorem of_list (l : List UInt8) (T : ByteArray) (h : T.data.toList = l) : (⟨l.toArray⟩ : ByteArray) = T := by subst h; exact ext_bytes (by simp)

set_option maxRecDepth 100000 in
set_option maxHeartbeats 2000000 in
theorem empty (a : Option Addr) (cap : Nat) (newline : Bool) (w : World) (C9 : Calls Try.prog 9 #[.slice a 0 cap] w fun e w' => e = .returned (.bool true) ∧ w = w') :
    Calls Try.prog 3 #[.slice a 0 cap, .bool newline] w fun e w' => e = .returned (.bool true) ∧ Below w.heap.size w w' := by
  have te : (⟨#[]⟩ : ByteArray).toList.isEmpty = true := by rw [Lib.toList_data]; rfl
  have HN := joiner_nil a cap newline w
  cases newline with
  | false =>
    go_enter Try.func3, Try.ntmps3
    go_wp2_with (go_at_call 9; refine C9.mono ?_; rintro e w1 ⟨rfl, rfl⟩)
    refine wp_loop_rounds 1 ?_
    rw [rounds_succ]
    go_wp2_with (first | (go_at_call_of 10 (Value.slice a 0 cap); refine HN.mono ?_; rintro e w2 ⟨rfl, hb2⟩) | (go_at_call 10; refine (probe_join _).mono ?_; rintro e w3 ⟨rfl, hb3⟩))
    go_ret
    exact ⟨rfl, hb2.trans (hb3.mono hb2.size)⟩
  | true =>
    go_enter Try.func3, Try.ntmps3
    go_wp2_with (go_at_call 9; refine C9.mono ?_; rintro e w1 ⟨rfl, rfl⟩)
    refine wp_loop_rounds 1 ?_
    rw [rounds_succ]
    go_wp2_with (first | (go_at_call_of 10 (Value.slice a 0 cap); refine HN.mono ?_; rintro e w2 ⟨rfl, hb2⟩) | (go_at_call 10; refine (probe_join _).mono ?_; rintro e w3 ⟨rfl, hb3⟩))
    go_ret
    exact ⟨rfl, hb2.trans (hb3.mono hb2.size)⟩
set_option maxRecDepth 100000 in
set_option maxHeartbeats 2000000 in
theorem e_fits (a : Option Addr) (n cap : Nat) (newline : Bool) (w : World) (C9 : Calls Try.prog 9 #[.slice a n cap] w fun e w' => e = .returned (.bool false) ∧ w = w') :
    Calls Try.prog 3 #[.slice a n cap, .bool newline] w fun e w' => e = .returned (.bool true) ∧ Below w.heap.size w w' := by
  go_enter Try.func3, Try.ntmps3
  go_wp2_with (go_at_call 9; refine C9.mono ?_; rintro e w1 ⟨rfl, rfl⟩)
  go_ret
  exact ⟨rfl, Below.refl _ _⟩
set_option maxRecDepth 100000 in
set_option maxHeartbeats 4000000 in
theorem main (b off cap n : Nat) (newline : Bool) (ss : List ByteArray) (w : World) (hn : n ≤ 9223372036854775807) (hn0 : 0 < n) (hl : ss.length = n) (hlt : b < w.heap.size) (hc : ∀ i (h : i < ss.length), w.cell? ⟨b, off + i, none⟩ = some (.string (ss[i]'h))) (hfit : ∀ s ∈ ss, s.size ≤ 9223372036854775807)
    (C9 : Calls Try.prog 9 #[.slice (some ⟨b, off, none⟩) n cap] w fun e w' => e = .returned (.bool true) ∧ w = w') :
    Calls Try.prog 3 #[.slice (some ⟨b, off, none⟩) n cap, .bool newline] w fun e w' => e = .returned (.bool true) ∧ Below w.heap.size w w' := by
  have HC := Lib.hid hc
  have HF := Lib.hid hfit
  have HL := Lib.hid hl
  clear hc hfit hl
  by_cases h50 : n ≤ 50
  · have t50 : decide ((50 : Int) < (n : Int)) = false := by simp; omega
    go_enter Try.func3, Try.ntmps3
    go_wp2_with (go_at_call 9; refine C9.mono ?_; rintro e w1 ⟨rfl, rfl⟩)
    clear C9
    go_loop [5, 20] (fun t i => ∃ (k : Nat) (T : ByteArray), k ≤ n ∧ i = .int .i64 k ∧ t = .string T ∧ T.size ≤ 200 * k ∧ Hid (T.data.toList = cat (ss.take k)) ∧ Hid (∀ i (hi : i < ss.length), i < k → ss[i].size ≤ 200)) (fun _ i => n - (intOf i).toNat)
    case atStart => exact ⟨0, _, Nat.zero_le _, rfl, rfl, by decide, rfl, fun i hi h => by omega⟩
    case round =>
      obtain ⟨k, T, hk, rfl, rfl, hT, HT, HZ⟩ := hrel
      by_cases hkn : k < n
      · have hks : k < ss.length := by rw [HL.out]; exact hkn
        have c1 := HC.out k hks
        have hps := HF.out ss[k] (List.getElem_mem _)
        have hct := cat_take ss k hks
        have hzz := HZ.out
        obtain ⟨p, hp⟩ : ∃ p, p = ss[k] := ⟨_, rfl⟩
        rw [← hp] at c1 hps hct
        by_cases h2 : p.size ≤ 200
        · have t2 : decide ((200 : Int) < (p.size : Int)) = false := by simp; omega
          have HZ2 : Hid (∀ i (hi : i < ss.length), i < k + 1 → ss[i].size ≤ 200) := fun i hi h => by
            rcases Nat.lt_or_ge i k with h3 | h3
            · exact hzz i hi h3
            · obtain rfl : i = k := by omega
              rw [← hp]; exact h2
          have HT2 : Hid ((T ++ p).data.toList = cat (ss.take (k + 1))) := by unfold Hid; rw [hct, ← HT.out]; simp
          have hz : (T ++ p).size ≤ 200 * (k + 1) := by rw [ByteArray.size_append]; omega
          clear hp hct hzz HT HZ
          go_wp2
          go_round
          case rel => exact ⟨k + 1, _, by omega, by go_num, rfl, hz, HT2, HZ2⟩
          case measure => simp [intOf]; omega
        · have t2 : decide ((200 : Int) < (p.size : Int)) = true := by simp; omega
          clear hp hct hzz HT HZ
          go_wp2
          go_ret
          exact ⟨rfl, Below.refl _ _⟩
      · obtain rfl : k = n := by omega
        have hT2 := HT.out
        rw [List.take_of_length_le (by rw [HL.out]; exact Nat.le_refl _)] at hT2
        have hall : ∀ s ∈ ss, s.size ≤ 200 := fun s hs => by
          obtain ⟨i, hi, rfl⟩ := List.mem_iff_getElem.1 hs
          exact HZ.out i hi (by rw [← HL.out]; exact hi)
        have CJ := joiner_some b off cap k newline ss w HL.out h50 hn0 hlt HC.out hall
        have hlen : (cat ss).length = T.size := by rw [← hT2]; simp
        have hTs : T.size ≤ 10000 := by omega
        clear hall HZ HT t50 h50 hT
        by_cases h0 : 0 < T.size
        · have te := not_empty h0
          have hidx : T.size - 1 < T.size := by omega
          obtain ⟨x, hx⟩ : ∃ x, (T[T.size - 1]'hidx).toNat = x := ⟨_, rfl⟩
          have hx2 : x < 256 := by rw [← hx]; exact UInt8.toNat_lt _
          have hlast : lastOf (cat ss) 0 = (x : Int) := by rw [← hT2, lastOf_some hidx, hx]
          cases newline with
          | false =>
            have hjoin : joined ss false = cat ss := by simp [joined]
            have CJ2 : Hid (Calls Try.prog 10 #[.slice (some ⟨b, off, none⟩) k cap, .bool false] w fun e w' => e = .returned (.tuple #[.string (T), .int .i64 ((T).size : Int), .int .u8 ((x : Int))]) ∧ Below w.heap.size w w') := by
              unfold Hid
              rw [hjoin] at CJ
              have e1 : (⟨(cat ss).toArray⟩ : ByteArray) = T := of_list _ _ hT2
              have e2 : (cat ss).length = (T).size := hlen
              have e3 : lastOf (cat ss) 0 = (x : Int) := hlast
              rw [e1, e2, e3] at CJ
              exact CJ
            clear CJ hjoin
            clear hlast hT2 hlen
            go_wp2_with (first | (go_at_call_of 10 (Value.slice (some ⟨b, off, none⟩) k cap); refine CJ2.out.mono ?_; rintro e w2 ⟨rfl, hb2⟩) | (go_at_call 10; refine (probe_join _).mono ?_; rintro e w3 ⟨rfl, hb3⟩))
            go_ret
            exact ⟨rfl, hb2.trans (hb3.mono hb2.size)⟩
          | true =>
            by_cases h10 : x = 10
            · subst h10
              have hjoin : joined ss true = cat ss := by rw [joined, if_neg (by rw [hlast]; simp)]
              have CJ2 : Hid (Calls Try.prog 10 #[.slice (some ⟨b, off, none⟩) k cap, .bool true] w fun e w' => e = .returned (.tuple #[.string (T), .int .i64 ((T).size : Int), .int .u8 (((10 : Nat) : Int))]) ∧ Below w.heap.size w w') := by
                unfold Hid
                rw [hjoin] at CJ
                have e1 : (⟨(cat ss).toArray⟩ : ByteArray) = T := of_list _ _ hT2
                have e2 : (cat ss).length = (T).size := hlen
                have e3 : lastOf (cat ss) 0 = ((10 : Nat) : Int) := hlast
                rw [e1, e2, e3] at CJ
                exact CJ
              clear CJ hjoin
              clear hlast hT2 hlen
              go_wp2_with (first | (go_at_call_of 10 (Value.slice (some ⟨b, off, none⟩) k cap); refine CJ2.out.mono ?_; rintro e w2 ⟨rfl, hb2⟩) | (go_at_call 10; refine (probe_join _).mono ?_; rintro e w3 ⟨rfl, hb3⟩))
              go_ret
              exact ⟨rfl, hb2.trans (hb3.mono hb2.size)⟩
            · have t10 : ((x : Int) == 10) = false := by simp; omega
              have hjoin : joined ss true = cat ss ++ [10] := by rw [joined, if_pos ⟨rfl, by omega, by rw [hlast]; omega⟩]
              have CJ2 : Hid (Calls Try.prog 10 #[.slice (some ⟨b, off, none⟩) k cap, .bool true] w fun e w' => e = .returned (.tuple #[.string (T ++ ⟨#[10]⟩), .int .i64 ((T ++ ⟨#[10]⟩).size : Int), .int .u8 (10)]) ∧ Below w.heap.size w w') := by
                unfold Hid
                rw [hjoin] at CJ
                have e1 : (⟨(cat ss ++ [10]).toArray⟩ : ByteArray) = T ++ ⟨#[10]⟩ := of_list _ _ (by rw [← hT2]; simp)
                have e2 : (cat ss ++ [10]).length = (T ++ ⟨#[10]⟩).size := by rw [List.length_append, hlen, ByteArray.size_append]; rfl
                have e3 : lastOf (cat ss ++ [10]) 0 = 10 := by rw [lastOf_append]; rfl
                rw [e1, e2, e3] at CJ
                exact CJ
              clear CJ hjoin
              clear hlast hT2 hlen
              have hten : ∀ h, ((T ++ ⟨#[10]⟩)[T.size]'h).toNat = 10 := fun h => ten_at T h
              have te2 := not_empty (W := T ++ ⟨#[10]⟩) (by rw [ByteArray.size_append]; omega)
              go_wp2_with (first | (go_at_call_of 10 (Value.slice (some ⟨b, off, none⟩) k cap); refine CJ2.out.mono ?_; rintro e w2 ⟨rfl, hb2⟩) | (go_at_call 10; refine (probe_join _).mono ?_; rintro e w3 ⟨rfl, hb3⟩))
              go_ret
              exact ⟨rfl, hb2.trans (hb3.mono hb2.size)⟩
        · have hT0 : T = ⟨#[]⟩ := ext_bytes (List.eq_nil_of_length_eq_zero (by rw [hT2, hlen]; omega))
          subst hT0
          have te : (⟨#[]⟩ : ByteArray).toList.isEmpty = true := by rw [Lib.toList_data]; rfl
          have hcat : cat ss = [] := hT2.symm
          have hjoin : joined ss newline = [] := by rw [joined, hcat]; simp
          have CJ2 : Hid (Calls Try.prog 10 #[.slice (some ⟨b, off, none⟩) k cap, .bool newline] w fun e w' => e = .returned (.tuple #[.string ⟨#[]⟩, .int .i64 0, .int .u8 0]) ∧ Below w.heap.size w w') := by
            rw [hjoin] at CJ
            exact CJ
          clear CJ hjoin hcat hT2 hlen
          cases newline with
          | false =>
            go_wp2_with (first | (go_at_call_of 10 (Value.slice (some ⟨b, off, none⟩) k cap); refine CJ2.out.mono ?_; rintro e w2 ⟨rfl, hb2⟩) | (go_at_call 10; refine (probe_join _).mono ?_; rintro e w3 ⟨rfl, hb3⟩))
            go_ret
            exact ⟨rfl, hb2.trans (hb3.mono hb2.size)⟩
          | true =>
            go_wp2_with (first | (go_at_call_of 10 (Value.slice (some ⟨b, off, none⟩) k cap); refine CJ2.out.mono ?_; rintro e w2 ⟨rfl, hb2⟩) | (go_at_call 10; refine (probe_join _).mono ?_; rintro e w3 ⟨rfl, hb3⟩))
            go_ret
            exact ⟨rfl, hb2.trans (hb3.mono hb2.size)⟩
  · have t50 : decide ((50 : Int) < (n : Int)) = true := by simp; omega
    go_enter Try.func3, Try.ntmps3
    go_wp2_with (go_at_call 9; refine C9.mono ?_; rintro e w1 ⟨rfl, rfl⟩)
    clear C9
    go_loop [5, 20] (fun t i => i = .int .i64 0) (fun _ i => 0)
    case atStart => rfl
    case round =>
      subst hrel
      have c1 := HC.out 0 (by rw [HL.out]; exact hn0)
      simp only [Nat.add_zero] at c1
      go_wp2
      go_ret
      exact ⟨rfl, Below.refl _ _⟩

theorem walk (a : Option Addr) (n cap : Nat) (ss : List ByteArray) (newline : Bool) (w : World) (hS : Strs w a n ss) (hss : ∀ s ∈ ss, s.size ≤ maxLen) (hn : n ≤ maxLen) :
    Calls Try.prog 3 #[.slice a n cap, .bool newline] w fun e w' => e = .returned (.bool true) ∧ Below w.heap.size w w' := by
  unfold maxLen at *
  have C9 := fits_any a n cap ss w hn hS
  cases hf : fitsB ss with
  | false =>
    rw [hf] at C9
    exact e_fits a n cap newline w C9
  | true =>
    rw [hf] at C9
    by_cases h0 : n = 0
    · subst h0
      exact empty a cap newline w C9
    · rcases hS.2 with h | ⟨b, off, rfl, hlt, hc⟩
      · have := hS.1; rw [h] at this; simp at this; omega
      · exact main b off cap n newline ss w hn (by omega) hS.1 hlt hc hss C9

theorem own : ownKnob Try.prog.godebug = none := by kernel_rfl
theorem laidOut : laidOutB Try.prog = true := by kernel_rfl
set_option maxRecDepth 100000 in
theorem lifted (os : Os) (started : os.Started) (H : Type) (enc : TypeId × Value → H) :
    ReturnsInHanded {} Try.checked os 3 .any (Rows.fnJoinerSpec.pre6 enc Try.prog Try.f3 Rows.fnJoinerRow.domain false) (Rows.fnJoinerSpec.post enc Try.prog Try.f3 false true false false) := by
  refine returnsInHanded_of_change (C := Try.checked) own started (by kernel_rfl) Try.func3
    (ChangeSpec.witness6 (enc := enc) (C := Try.checked) false ⟨#[], #[.slice none 0 0, .bool false], []⟩ 8 (by kernel_rfl) (by kernel_rfl) (by kernel_rfl) (by kernel_rfl)) ?_
  intro W base args ds gs before hval0 hW hcnd _
  have hval : ∀ (j : Nat) t v, Try.f3.params[j]? = some t → args[j]? = some v → Value.okWide Try.prog W .any base t v := hval0
  have hW' := hW
  obtain ⟨p, q, hA0, hV, rfl, hfz, hnd⟩ := hW
  have hA : DataW.TrodAll enc Try.prog W 0 (fun _ => true) true Try.f3.params.toList args.toList ds p := hA0
  rw [Try.params3] at hA hval
  obtain ⟨v0, vs0, d0, ds0, p0, q0, hargs, rfl, rfl, h0, r0⟩ := trodAll_cons hA
  obtain ⟨v1, vs1, d1, ds1, p1, q1, rfl, rfl, rfl, h1, r1⟩ := trodAll_cons r0
  obtain ⟨rfl, rfl, rfl⟩ := trodAll_nil r1
  obtain rfl : args = #[v0, v1] := by cases args; simp_all
  obtain ⟨rfl, rfl⟩ := trodVars_none hV
  have k0 := h0
  have lt0 : ∀ x ∈ p0, x.block < W.heap.size := by obtain ⟨m, hm⟩ := k0; exact DataW.trod_lt m _ _ _ hm
  have k1 := h1
  have lt1 : ∀ x ∈ p1, x.block < W.heap.size := by obtain ⟨m, hm⟩ := k1; exact DataW.trod_lt m _ _ _ hm
  obtain ⟨a0, len0, cap0, rfl⟩ := okWide_slice Try.underlying22 (hval 0 22 v0 rfl rfl)
  obtain ⟨z0, w0, u0, n0⟩ : ∃ ss, Strs W a0 len0 ss ∧ (∀ s ∈ ss, s.size ≤ maxLen) ∧ len0 ≤ maxLen := by
    obtain ⟨fuel, hf⟩ := h0
    rcases open_strings Try.underlying22 Try.underlying9 (by kernel_rfl) hf with ⟨hcs, _⟩ | ⟨x, l, c, zs, hcs, _, hl, hm, hz, _, hcell, hwz⟩
    · simp [Value.cells] at hcs
      obtain ⟨rfl, rfl, rfl⟩ := hcs
      exact ⟨[], ⟨rfl, .inl rfl⟩, by simp, Nat.zero_le _⟩
    · simp [Value.cells] at hcs
      obtain ⟨rfl, rfl, rfl⟩ := hcs
      exact ⟨zs.take _, strs_of (by simp at hz; omega) hcell, fun s hs => hwz s (List.mem_of_mem_take hs), by omega⟩
  obtain ⟨a1, rfl, rfl, rfl⟩ := open_bool Try.underlying4 (hval 1 4 v1 rfl rfl) h1
  clear hA0 hval0
  refine (walk a0 len0 cap0 z0 a1 W w0 u0 n0).mono fun e W' ⟨he, bel⟩ => ?_
  subst he
  exact ⟨_, rfl, _, _, _, [], _, [], hW', trodAll_mk1 (shut_bool Try.underlying4 _), (trodAll_cons_mk (Below.trod laidOut (by kernel_rfl) (of_decide_eq_true (by kernel_rfl)) k0 bel lt0) (trodAll_cons_mk (Below.trod laidOut (by kernel_rfl) (of_decide_eq_true (by kernel_rfl)) k1 bel lt1) trodAll_mk0)), rfl, bel.frame _, fun h => by cases h⟩

theorem over : Rows.fnJoinerRow.holds Try.pinned (OpenSpec.ofChange Rows.fnJoinerSpec) :=
  OpenClaim.holds_of_wide 3 Try.f3 rfl rfl rfl rfl rfl rfl rfl ⟨rfl, rfl, rfl, rfl, rfl⟩ rfl rfl rfl rfl rfl (by kernel_rfl) Try.func3 (by kernel_rfl)
    (of_decide_eq_true (by kernel_rfl)) (by unfold Func.isWrapper; first | (rw [if_pos (by decide +kernel)]; kernel_rfl) | (rw [if_neg (by decide +kernel)]; exact ⟨rfl, rfl⟩))
    (fun os started H enc _ => lifted os started H enc)
theorem proved : Rows.FnJoinerSaid := over
#print axioms proved
end Go.Proofs.Ytfpfpdjnmfiffaa.fnJoiner
