/- encoding/base64: DecodeString (26). -/
import Derived.Test.YtmfbnmjmgpafmaaDoorDecD
import Derived.Test.YtmfbnmjmgpafmaaDoorEncC
import Derived.Lib.ConvBytes
namespace Go.Proofs.YtmfbnmjmgpafmaaDoor
open Go.RowKit
set_option linter.unusedVariables false
set_option linter.unusedSimpArgs false
/-- A text's bytes, in a row of their own. -/
theorem made_bytes (s : ByteArray) (w : World) (hs : s.size ≤ 100000) : ∃ (W0 : World) (cap : Nat), (convert 9 29 (.string s)).run Tryd.prog w = .ok (.slice (some ⟨w.heap.size, 0, none⟩) s.size cap) W0 ∧ Below w.heap.size w W0 ∧ Cel w.heap.size (nums s) W0 ∧ s.size ≤ cap ∧ cap ≤ 9223372036854775807 := by
  refine ⟨Lib.bytesWorld w 5 s, _, Lib.run_convert_string_bytes w 9 29 5 s Tryd.underlying9 Tryd.underlying29 Tryd.underlying5, ⟨rfl, rfl, rfl, by rw [Lib.bytesWorld_size]; omega, fun k hk => Lib.bytesWorld_at_old w 5 s k hk⟩, ⟨by rw [Lib.bytesWorld_size]; omega, fun j hj => ?_⟩, grownCap_ge w _ _ _, grownCap_le_maxLen w _ _ _ (by unfold maxLen; omega)⟩
  have hj' : j < s.size := by rw [← nums_len]; exact hj
  rw [Lib.bytesWorld_cell w 5 s j hj']
  simp [nums, List.getD, List.getElem?_eq_getElem, hj']
theorem nil_size {s : ByteArray} {l : List Nat} (h : nums s = l) : s.size = l.length := by rw [← h, nums_len]
set_option maxRecDepth 1000000 in
set_option maxHeartbeats 8000000 in
theorem decodeString_any (B : Nat) (s : ByteArray) (t : List Nat) (w : World) (hE : EncAt B w) (hs : nums s = b64 t) (ht : t.length ≤ 1000) (hlt : ∀ b ∈ t, b < 256) :
    Calls Tryd.prog 26 #[.pointer (some ⟨B, 0, none⟩), .string s] w fun e w' => (∃ (D cap : Nat) (l : List Nat), e = .returned (.tuple #[.slice (some ⟨D, 0, none⟩) t.length cap, Value.nilIface]) ∧ t.length ≤ l.length ∧ (∀ j, j < t.length → l.getD j 0 = t.getD j 0) ∧ Buf D l w') ∧ Below w.heap.size w w' := by
  obtain ⟨i0, hi0, hz0, hz1, hz2⟩ := info_parts infoB
  have hb := b64_len _ t (Nat.le_refl _)
  have hsz := nil_size hs
  rw [hb] at hsz
  have HE := Lib.hid hE
  have HLT := Lib.hid hlt
  have HM := Lib.hid hb
  have HS := Lib.hid hs
  clear hE hlt hb hs
  obtain ⟨m, hm⟩ : ∃ m, s.size = m := ⟨_, rfl⟩
  have hm2 : m ≤ 2000 := by omega
  have HMM : Hid (m = (t.length + 2) / 3 * 4) := Lib.hid (by omega)
  have HSM := Lib.hid hm
  clear hsz
  go_enter Tryd.func26, Tryd.ntmps26
  go_wp2_with (first | (at_make; refine wpList_make_full _ rfl _ _ 29 rfl w.heap.size 5 i0 (.int .u8 0) 1 Tryd.underlying29 hi0 hz0 hz1 _ _ _ _ (m / 4 * 3) rfl rfl (by omega) (by omega) (by rw [hz2]; omega) (by unfold maxLen; omega) (Nat.le_refl _) ?_) | (go_at_call 36; (with_reducible refine (decodedLen_any B m _ HE.out (by omega)).mono ?_); rintro e w8 ⟨rfl, hw8⟩; rw [hw8]; clear hw8 w8))
  intro w1 hown hgrow
  have HB1 := Lib.hid ((Below.refl w.heap.size w).grown hgrow (Nat.le_refl _) (fun k hk => by cases hk))
  have HD1 := Lib.hid (buf_owned hown (made_zero _))
  have HE1 := Lib.hid (HE.out.below HE.out.lt HB1.out)
  have hB := HE.out.lt
  generalize hD : w.heap.size = D at *
  have HW := Lib.hid hD
  clear hown hgrow HE hD
  obtain ⟨w2, sc, hr, g1, g2, g3, g4⟩ := made_bytes s w1 (by rw [hm]; omega)
  have hDS := HD1.out.lt
  have HD2 := Lib.hid (HD1.out.below g1 hDS)
  have HE2 := Lib.hid (HE1.out.below HE1.out.lt g1)
  have HB2 := Lib.hid (HB1.out.trans (g1.mono (Nat.le_of_lt hDS)))
  generalize w1.heap.size = S at *
  have HC := Lib.hid (decode_any B D S t (List.replicate (m / 4 * 3) 0) m (m / 4 * 3) (m / 4 * 3) sc w2 HE2.out (by rw [← HS.out]; exact g2) HD2.out (by rw [HM.out]; exact HMM.out.symm) (by simp) rfl ht HLT.out (Nat.le_refl _) (by rw [hm] at g3; exact g3) (by omega) g4 hB (by omega))
  have hml : t.length ≤ m / 4 * 3 := by have := HMM.out; omega
  rw [hm] at hr
  clear g1 g2 g3 g4 HD1 HE1 HB1
  go_wp2_with (go_at_call 37; (with_reducible refine HC.out.mono ?_); rintro e w8 ⟨rfl, h8, h9⟩)
  have HB3 := Lib.hid (HB2.out.trans h9)
  obtain ⟨zk, h5, h6, h7⟩ := h8
  go_ret2
  exact ⟨⟨D, m / 4 * 3, zk, rfl, by omega, h6, h7⟩, by rw [HW.out]; exact HB3.out⟩
end Go.Proofs.YtmfbnmjmgpafmaaDoor
