/- FnLoose holds at every sign and every text: helpers.DecodeWTF8Rune tells the sign and its length. No condition. -/
import Derived.Test.YtfpfpdjnmfiffaaWtf
import Derived.ProofKit
import Derived.OpenShut
import Derived.ShutString
import Derived.ChangeOld
import Derived.Below
namespace Go.Proofs.Ytfpfpdjnmfiffaa.fnLoose
open Go.ChangeShapes Go.WideShapes Go.ChangeAt Go.RowKit
open Go.ChangeMaps (open_string shut_string)
set_option linter.unusedVariables false

theorem str_byte (xs : List Int) (b : ByteArray) (i : Nat) (x : Int) (hx : xs[i]? = some x) (h0 : 0 ≤ x) (h1 : x < 256) (hs : i < (strOfNums xs ++ b).size) : ((strOfNums xs ++ b)[i]'hs).toNat = x.toNat := by
  have hi : i < xs.length := (List.getElem?_eq_some_iff.1 hx).1
  have hx' : xs[i] = x := (List.getElem?_eq_some_iff.1 hx).2
  rw [ByteArray.getElem_append_left (by rw [strOfNums_size]; exact hi)]
  show (UInt8.toNat (((xs.map fun n => UInt8.ofNat n.toNat).toArray)[i]'(by simpa using hi))) = x.toNat
  simp [hx']
  omega
theorem enc_one (c : Int) (h0 : 0 ≤ c) (h1 : c < 128) : Utf8.encode c = strOfNums [c] := by
  have hv : Utf8.valid c = true := by simp [Utf8.valid]; omega
  unfold Utf8.encode
  simp only [hv, if_true]
  rw [if_pos (by omega)]
  rfl
theorem enc_two (c : Int) (h0 : 128 ≤ c) (h1 : c < 2048) : Utf8.encode c = strOfNums [192 + c / 64, 128 + c % 64] := by
  have hv : Utf8.valid c = true := by simp [Utf8.valid]; omega
  unfold Utf8.encode
  simp only [hv, if_true]
  rw [if_neg (by omega), if_pos (by omega)]
  simp only [strOfNums, List.map_cons, List.map_nil]
  rw [show (192 + c / 64).toNat = 0xC0 + c.toNat / 64 by omega, show (128 + c % 64).toNat = 0x80 + c.toNat % 64 by omega]
theorem enc_three (c : Int) (h0 : 2048 ≤ c) (h1 : c < 65536) (h2 : c < 55296 ∨ 57344 ≤ c) : Utf8.encode c = strOfNums [224 + c / 4096, 128 + c / 64 % 64, 128 + c % 64] := by
  have hv : Utf8.valid c = true := by simp [Utf8.valid]; omega
  unfold Utf8.encode
  simp only [hv, if_true]
  rw [if_neg (by omega), if_neg (by omega), if_pos (by omega)]
  simp only [strOfNums, List.map_cons, List.map_nil]
  rw [show (224 + c / 4096).toNat = 0xE0 + c.toNat / 4096 by omega, show (128 + c / 64 % 64).toNat = 0x80 + c.toNat / 64 % 64 by omega, show (128 + c % 64).toNat = 0x80 + c.toNat % 64 by omega]
theorem enc_four (c : Int) (h0 : 65536 ≤ c) (h1 : c ≤ 1114111) : Utf8.encode c = strOfNums [240 + c / 262144, 128 + c / 4096 % 64, 128 + c / 64 % 64, 128 + c % 64] := by
  have hv : Utf8.valid c = true := by simp [Utf8.valid]; omega
  unfold Utf8.encode
  simp only [hv, if_true]
  rw [if_neg (by omega), if_neg (by omega), if_neg (by omega)]
  simp only [strOfNums, List.map_cons, List.map_nil]
  rw [show (240 + c / 262144).toNat = 0xF0 + c.toNat / 262144 by omega, show (128 + c / 4096 % 64).toNat = 0x80 + c.toNat / 4096 % 64 by omega, show (128 + c / 64 % 64).toNat = 0x80 + c.toNat / 64 % 64 by omega, show (128 + c % 64).toNat = 0x80 + c.toNat % 64 by omega]

/-- impl.Loose hands on what DecodeWTF8Rune tells. -/
theorem loose_of (s : ByteArray) (c n : Int) (w : World) (h : ∀ w : World, Calls Try.prog 30 #[.string s] w fun e w' => e = .returned (.tuple #[.int .i32 c, .int .i64 n]) ∧ w = w') :
    Calls Try.prog 14 #[.string s] w fun e w' => e = .returned (.tuple #[.int .i32 c, .int .i64 n]) ∧ w = w' := by
  go_enter Try.func14, Try.ntmps14
  go_wp2_with (go_at_call 30; refine (h _).mono ?_; rintro e w' ⟨rfl, rfl⟩)
  go_ret2
  exact ⟨rfl, rfl⟩

/-- A sign in one to four bytes with whatever behind it: the sign and its length. -/
def Told (S : ByteArray) (c : Int) : Prop := ∀ (b : ByteArray) (w : World), Calls Try.prog 14 #[.string (S ++ b)] w fun e w' => e = .returned (.tuple #[.int .i32 c, .int .i64 (S.size : Int)]) ∧ w = w'

theorem told_one (c : Int) (h0 : 0 ≤ c) (h1 : c < 128) : Told (strOfNums [c]) c := by
  intro b w
  have hz := strOfNums_size [c]
  have hl : (strOfNums [c] ++ b).size = 1 + b.size := by rw [ByteArray.size_append, hz]; rfl
  have h := wtf_one (strOfNums [c] ++ b) w (by omega) c.toNat (str_byte _ b 0 c rfl h0 (by omega) _) (by omega)
  rw [hz]
  refine loose_of _ _ _ _ fun w => ?_
  have h := wtf_one (strOfNums [c] ++ b) w (by omega) c.toNat (str_byte _ b 0 c rfl h0 (by omega) _) (by omega)
  rw [show ((c.toNat : Nat) : Int) = c by omega] at h
  exact h
theorem told_two (x y c : Int) (hx : 194 ≤ x) (hx' : x < 224) (hy : 128 ≤ y) (hy' : y < 192) (hc : c = (x - 192) * 64 + (y - 128)) : Told (strOfNums [x, y]) c := by
  intro b w
  have hz := strOfNums_size [x, y]
  have hl : (strOfNums [x, y] ++ b).size = 2 + b.size := by rw [ByteArray.size_append, hz]; rfl
  rw [hz]
  refine loose_of _ _ _ _ fun w => ?_
  have h := wtf_two (strOfNums [x, y] ++ b) w (by omega) x.toNat y.toNat (str_byte _ b 0 x rfl (by omega) (by omega) _) (str_byte _ b 1 y rfl (by omega) (by omega) _) (by omega) (by omega) (by omega) (by omega)
  rw [show (((x.toNat : Nat) : Int) - 192) * 64 + (((y.toNat : Nat) : Int) - 128) = c by omega] at h
  exact h
theorem told_three (x y z c : Int) (hx : 224 ≤ x) (hx' : x < 240) (hy : 128 ≤ y) (hy' : y < 192) (hz : 128 ≤ z) (hz' : z < 192) (hc : c = (x - 224) * 4096 + (y - 128) * 64 + (z - 128)) (hm : 2048 ≤ c) : Told (strOfNums [x, y, z]) c := by
  intro b w
  have hs := strOfNums_size [x, y, z]
  have hl : (strOfNums [x, y, z] ++ b).size = 3 + b.size := by rw [ByteArray.size_append, hs]; rfl
  rw [hs]
  refine loose_of _ _ _ _ fun w => ?_
  have h := wtf_three (strOfNums [x, y, z] ++ b) w (by omega) x.toNat y.toNat z.toNat (str_byte _ b 0 x rfl (by omega) (by omega) _) (str_byte _ b 1 y rfl (by omega) (by omega) _) (str_byte _ b 2 z rfl (by omega) (by omega) _)
    (by omega) (by omega) (by omega) (by omega) (by omega) (by omega) (by omega)
  rw [show (((x.toNat : Nat) : Int) - 224) * 4096 + (((y.toNat : Nat) : Int) - 128) * 64 + (((z.toNat : Nat) : Int) - 128) = c by omega] at h
  exact h
theorem told_four (x y z u c : Int) (hx : 240 ≤ x) (hx' : x < 248) (hy : 128 ≤ y) (hy' : y < 192) (hz : 128 ≤ z) (hz' : z < 192) (hu : 128 ≤ u) (hu' : u < 192) (hc : c = (x - 240) * 262144 + (y - 128) * 4096 + (z - 128) * 64 + (u - 128)) (hm : 65536 ≤ c) (hM : c ≤ 1114111) :
    Told (strOfNums [x, y, z, u]) c := by
  intro b w
  have hs := strOfNums_size [x, y, z, u]
  have hl : (strOfNums [x, y, z, u] ++ b).size = 4 + b.size := by rw [ByteArray.size_append, hs]; rfl
  rw [hs]
  refine loose_of _ _ _ _ fun w => ?_
  have h := wtf_four (strOfNums [x, y, z, u] ++ b) w (by omega) x.toNat y.toNat z.toNat u.toNat (str_byte _ b 0 x rfl (by omega) (by omega) _) (str_byte _ b 1 y rfl (by omega) (by omega) _) (str_byte _ b 2 z rfl (by omega) (by omega) _) (str_byte _ b 3 u rfl (by omega) (by omega) _)
    (by omega) (by omega) (by omega) (by omega) (by omega) (by omega) (by omega) (by omega) (by omega) (by omega)
  rw [show (((x.toNat : Nat) : Int) - 240) * 262144 + (((y.toNat : Nat) : Int) - 128) * 4096 + (((z.toNat : Nat) : Int) - 128) * 64 + (((u.toNat : Nat) : Int) - 128) = c by omega] at h
  exact h

theorem told_encode (c : Int) (h0 : 1 ≤ c) (h1 : c ≤ 1114111) (h2 : c < 55296 ∨ 57344 ≤ c) : Told (Utf8.encode c) c ∧ (Utf8.encode c).size ≤ 4 := by
  by_cases a : c < 128
  · rw [enc_one c (by omega) a]; exact ⟨told_one c (by omega) a, by simp [strOfNums_size]⟩
  by_cases b : c < 2048
  · rw [enc_two c (by omega) b]; exact ⟨told_two _ _ c (by omega) (by omega) (by omega) (by omega) (by omega), by simp [strOfNums_size]⟩
  by_cases d : c < 65536
  · rw [enc_three c (by omega) d h2]; exact ⟨told_three _ _ _ c (by omega) (by omega) (by omega) (by omega) (by omega) (by omega) (by omega) (by omega), by simp [strOfNums_size]⟩
  · rw [enc_four c (by omega) h1]; exact ⟨told_four _ _ _ _ c (by omega) (by omega) (by omega) (by omega) (by omega) (by omega) (by omega) (by omega) (by omega) (by omega) (by omega), by simp [strOfNums_size]⟩

set_option maxRecDepth 100000 in
set_option maxHeartbeats 1000000 in
theorem walk_plain (c : Int) (b : ByteArray) (hb : b.size ≤ 20) (h0 : 1 ≤ c) (h1 : c ≤ 1114111) (h2 : c < 55296 ∨ 57344 ≤ c) (w : World) :
    Calls Try.prog 6 #[.int .i32 c, .string b] w fun e w' => e = .returned (.bool true) ∧ Below w.heap.size w w' := by
  obtain ⟨ht, hz⟩ := told_encode c h0 h1 h2
  have hsum : ¬ 9223372036854775807 < (Utf8.encode c).size + b.size := by omega
  rcases h2 with h2 | h2
  · go_enter Try.func6, Try.ntmps6
    go_wp2_with (go_at_call 14; refine (ht b _).mono ?_; rintro e w' ⟨rfl, rfl⟩)
    go_ret
    exact ⟨rfl, Below.refl _ _⟩
  · have h3 : ¬ c < 57344 := by omega
    go_enter Try.func6, Try.ntmps6
    go_wp2_with (go_at_call 14; refine (ht b _).mono ?_; rintro e w' ⟨rfl, rfl⟩)
    go_ret
    exact ⟨rfl, Below.refl _ _⟩

theorem i32_high (c : Int) (h0 : 55296 ≤ c) (h1 : c < 57344) : bits .or .i32 224 (c / 4096) = 237 := by
  rw [show c / 4096 = 13 by omega]; kernel_rfl
theorem i32_and63 (x : Int) (h0 : 0 ≤ x) (h1 : x < 2147483648) : bits .and .i32 x 63 = x % 64 := bits_mask .i32 31 (by decide) wraps_i32 6 (by decide) x h0 h1
theorem i32_or128 (y : Int) (h0 : 0 ≤ y) (h1 : y < 64) : bits .or .i32 128 y = 128 + y := i32_or6 128 y (by decide) (by decide) (by decide) h0 h1

set_option maxRecDepth 100000 in
set_option maxHeartbeats 1000000 in
theorem walk_sur (c : Int) (b : ByteArray) (hb : b.size ≤ 20) (h0 : 55296 ≤ c) (h1 : c < 57344) (w : World) :
    Calls Try.prog 6 #[.int .i32 c, .string b] w fun e w' => e = .returned (.bool true) ∧ Below w.heap.size w w' := by
  have k1 := i32_high c h0 h1
  have k2 := i32_and63 (c / 64) (by omega) (by omega)
  have k3 := i32_or128 (c / 64 % 64) (by omega) (by omega)
  have k4 := i32_and63 c (by omega) (by omega)
  have k5 := i32_or128 (c % 64) (by omega) (by omega)
  have k6 : (128 + c / 64 % 64) % 256 = 128 + c / 64 % 64 := by omega
  have k7 : (128 + c % 64) % 256 = 128 + c % 64 := by omega
  have ht := told_three 237 (128 + c / 64 % 64) (128 + c % 64) c (by omega) (by omega) (by omega) (by omega) (by omega) (by omega) (by omega) (by omega)
  have hz := strOfNums_size [237, 128 + c / 64 % 64, 128 + c % 64]
  have hsum : ¬ 9223372036854775807 < (strOfNums [237, 128 + c / 64 % 64, 128 + c % 64]).size + b.size := by rw [hz]; simp; omega
  have hcv := run_convert_bytes_arg (P := Try.prog) (w.alloc (.cells #[.int .u8 237, .int .u8 (128 + c / 64 % 64), .int .u8 (128 + c % 64)] 5)) 37 5 Try.underlying37 Try.underlying5 w.heap.size 0 3 3 [237, 128 + c / 64 % 64, 128 + c % 64] rfl
    (fun i hi => by
      match i, hi with
      | 0, _ => simp
      | 1, _ => simp
      | 2, _ => simp) 9 Try.underlying9
  go_enter Try.func6, Try.ntmps6
  go_wp2_with (go_at_call 14; refine (ht b _).mono ?_; rintro e w' ⟨rfl, rfl⟩)
  go_ret
  exact ⟨rfl, (Below.refl _ _).alloc (Nat.le_refl _) _⟩

set_option maxRecDepth 100000 in
theorem walk (c : Int) (w0 : (Lit.int .i32 c).wf = true) (b : ByteArray) (w1 : b.size ≤ maxLen) (w : World) :
    Calls Try.prog 6 #[.int .i32 c, .string b] w fun e w' => e = .returned (.bool true) ∧ Below w.heap.size w w' := by
  clear w0
  unfold maxLen at w1
  by_cases hb : b.size ≤ 20
  · by_cases h0 : 1 ≤ c
    · by_cases h1 : c ≤ 1114111
      · by_cases h2 : 55296 ≤ c ∧ c < 57344
        · exact walk_sur c b hb h2.1 h2.2 w
        · exact walk_plain c b hb h0 h1 (by omega) w
      · have e1 : decide (c < 1) = false := by simp; omega
        go_enter Try.func6, Try.ntmps6
        go_wp2
        go_ret
        exact ⟨rfl, Below.refl _ _⟩
    · go_enter Try.func6, Try.ntmps6
      go_wp2
      go_ret
      exact ⟨rfl, Below.refl _ _⟩
  · by_cases hm : b.size ≤ 2147483647
    · have e0 : ¬ (2147483647 : Int) < (b.size : Int) := by omega
      have e2 : decide ((20 : Int) < (b.size : Int)) = true := by simp; omega
      by_cases h0 : c < 1
      · go_enter Try.func6, Try.ntmps6
        go_wp2
        go_ret
        exact ⟨rfl, Below.refl _ _⟩
      · have e1 : decide (c < 1) = false := by simpa using h0
        by_cases h1 : 1114111 < c
        · go_enter Try.func6, Try.ntmps6
          go_wp2
          go_ret
          exact ⟨rfl, Below.refl _ _⟩
        · have e3 : decide (1114111 < c) = false := by simpa using h1
          go_enter Try.func6, Try.ntmps6
          go_wp2
          go_ret
          exact ⟨rfl, Below.refl _ _⟩
    · go_enter Try.func6, Try.ntmps6
      go_wp2
      go_ret
      exact ⟨rfl, Below.refl _ _⟩

theorem own : ownKnob Try.prog.godebug = none := by kernel_rfl
theorem laidOut : laidOutB Try.prog = true := by kernel_rfl
set_option maxRecDepth 100000 in
theorem lifted (os : Os) (started : os.Started) (H : Type) (enc : TypeId × Value → H) :
    ReturnsInHanded {} Try.checked os 6 .any (Rows.fnLooseSpec.pre6 enc Try.prog Try.f6 Rows.fnLooseRow.domain false) (Rows.fnLooseSpec.post enc Try.prog Try.f6 false true false false) := by
  refine returnsInHanded_of_change (C := Try.checked) own started (by kernel_rfl) Try.func6
    (ChangeSpec.witness6 (enc := enc) (C := Try.checked) false ⟨#[], #[.int .i32 0, .string ByteArray.empty], []⟩ 8 (by kernel_rfl) (by kernel_rfl) (by kernel_rfl) (by kernel_rfl)) ?_
  intro W base args ds gs before hval0 hW hcnd _
  have hval : ∀ (j : Nat) t v, Try.f6.params[j]? = some t → args[j]? = some v → Value.okWide Try.prog W .any base t v := hval0
  have hW' := hW
  obtain ⟨p, q, hA0, hV, rfl, hfz, hnd⟩ := hW
  have hA : DataW.TrodAll enc Try.prog W 0 (fun _ => true) true Try.f6.params.toList args.toList ds p := hA0
  rw [Try.params6] at hA hval
  obtain ⟨v0, vs0, d0, ds0, p0, q0, hargs, rfl, rfl, h0, r0⟩ := trodAll_cons hA
  obtain ⟨v1, vs1, d1, ds1, p1, q1, rfl, rfl, rfl, h1, r1⟩ := trodAll_cons r0
  obtain ⟨rfl, rfl, rfl⟩ := trodAll_nil r1
  obtain rfl : args = #[v0, v1] := by cases args; simp_all
  obtain ⟨rfl, rfl⟩ := trodVars_none hV
  have k0 := h0
  have lt0 : ∀ x ∈ p0, x.block < W.heap.size := by obtain ⟨m, hm⟩ := k0; exact DataW.trod_lt m _ _ _ hm
  have k1 := h1
  have lt1 : ∀ x ∈ p1, x.block < W.heap.size := by obtain ⟨m, hm⟩ := k1; exact DataW.trod_lt m _ _ _ hm
  obtain ⟨a0, rfl, rfl, rfl, w0⟩ := open_int Try.underlying21 (hval 0 21 v0 rfl rfl) h0
  obtain ⟨a1, rfl, rfl, rfl, w1⟩ := open_string Try.underlying9 (hval 1 9 v1 rfl rfl) h1
  clear hA0 hval0
  refine (walk a0 w0 a1 w1 W).mono fun e W' ⟨he, bel⟩ => ?_
  subst he
  exact ⟨_, rfl, _, _, _, [], _, [], hW', trodAll_mk1 (shut_bool Try.underlying4 _), (trodAll_cons_mk (Below.trod laidOut (by kernel_rfl) (of_decide_eq_true (by kernel_rfl)) k0 bel lt0) (trodAll_cons_mk (Below.trod laidOut (by kernel_rfl) (of_decide_eq_true (by kernel_rfl)) k1 bel lt1) trodAll_mk0)), rfl, bel.frame _, fun h => by cases h⟩

theorem over : Rows.fnLooseRow.holds Try.pinned (OpenSpec.ofChange Rows.fnLooseSpec) :=
  OpenClaim.holds_of_wide 6 Try.f6 rfl rfl rfl rfl rfl rfl rfl ⟨rfl, rfl, rfl, rfl, rfl⟩ rfl rfl rfl rfl rfl (by kernel_rfl) Try.func6 (by kernel_rfl)
    (of_decide_eq_true (by kernel_rfl)) (by unfold Func.isWrapper; first | (rw [if_pos (by decide +kernel)]; kernel_rfl) | (rw [if_neg (by decide +kernel)]; exact ⟨rfl, rfl⟩))
    (fun os started H enc _ => lifted os started H enc)
theorem proved : Rows.FnLooseSaid := over
#print axioms proved
end Go.Proofs.Ytfpfpdjnmfiffaa.fnLoose
