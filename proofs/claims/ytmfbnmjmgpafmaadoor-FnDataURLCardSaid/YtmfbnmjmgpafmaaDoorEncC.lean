/- encoding/base64: EncodeToString (22). -/
import Derived.Test.YtmfbnmjmgpafmaaDoorEncB
import Derived.Test.YtmfbnmjmgpafmaaDoorB64S
import Derived.OwnWalk
import Derived.Lib.SmallJoins
import Derived.Laws.IdiomStrings
import Derived.Laws.BytesArg
import Derived.Deep.RegionWith
namespace Go.Proofs.YtmfbnmjmgpafmaaDoor
open Go.RowKit
set_option linter.unusedVariables false
set_option linter.unusedSimpArgs false
theorem infoB : (Tryd.prog.info? 5).map (fun i => (i.zero, i.size, i.bytes)) = some (some (.int .u8 0), 1, 1) := by kernel_rfl
theorem buf_owned {W : World} {b D n cap : Nat} {cells : List Value} {l : List Nat} (h : W.ownsRow b 5 1 (.slice (some ⟨D, 0, none⟩) n cap) n cells) (hc : cells = l.map fun n : Nat => Value.int .u8 (n : Int)) : Buf D l W := by
  subst hc
  obtain ⟨h1, h2⟩ := h
  rcases h2 with ⟨h2, _⟩ | ⟨g, cap', cur, hv, hg, hh, r⟩
  · cases h2
  · simp only [Value.slice.injEq, Option.some.injEq, Addr.mk.injEq] at hv
    obtain ⟨⟨rfl, _, _⟩, _, rfl⟩ := hv
    refine ⟨cur, hh, fun j hj => ?_⟩
    have e := congrArg (·[j]?) r.2.2.2
    simp only [List.getElem?_map, List.getElem?_take] at e
    rw [List.length_map] at h1
    rw [if_pos (by omega), List.getElem?_eq_getElem hj] at e
    simp only [Array.getElem?_toList, Option.map_some] at e
    rw [e]
    simp [List.getD, List.getElem?_eq_getElem hj]
theorem made_zero (n : Nat) : (madeCells #[Value.int .u8 0] n).toList = (List.replicate n 0).map fun n : Nat => Value.int .u8 (n : Int) := by
  apply List.ext_getElem?
  intro i
  simp only [madeCells, Array.getElem?_toList, Array.getElem?_map, List.getElem?_map, List.getElem?_replicate]
  by_cases h : i < n
  · simp [h, Nat.mod_one]
  · simp [h]
theorem buf_text {W : World} {D cap : Nat} {l : List Nat} {q : ByteArray} (h : Buf D l W) (hq : nums q = l) : (convert 29 9 (.slice (some ⟨D, 0, none⟩) l.length cap)).run Tryd.prog W = .ok (.string q) W := by
  have hl : q.data.toList.length = l.length := by rw [← hq]; simp [nums]
  have := run_convert_bytes_back (P := Tryd.prog) W 29 9 5 ⟨D, 0, none⟩ cap q.data.toList Tryd.underlying29 Tryd.underlying5 Tryd.underlying9 (fun j hj => by
    rw [Addr.add_mid, Nat.zero_add]
    rw [h.cell (by omega), ← hq]
    simp [nums, List.getD, List.getElem?_eq_getElem hj])
  rw [hl] at this
  exact this
theorem b64_256 (l : List Nat) : ∀ b ∈ b64 l, b < 256 := fun b hb => by have := (b64_lt _ l (Nat.le_refl _) b hb).1; omega
set_option maxRecDepth 1000000 in
set_option maxHeartbeats 8000000 in
theorem encodeToString_any (B G : Nat) (l : List Nat) (gc : Nat) (w : World) (hE : EncAt B w) (hS : Cel G l w) (hl : l.length ≤ 1000) (hlt : ∀ b ∈ l, b < 256) (hgc : l.length ≤ gc) (hbg : gc ≤ 9223372036854775807) :
    Calls Tryd.prog 22 #[.pointer (some ⟨B, 0, none⟩), .slice (some ⟨G, 0, none⟩) l.length gc] w fun e w' => (∃ q : ByteArray, nums q = b64 l ∧ e = .returned (.string q)) ∧ Below w.heap.size w w' := by
  obtain ⟨i0, hi0, hz0, hz1, hz2⟩ := info_parts infoB
  have HE := Lib.hid hE
  have HS := Lib.hid hS
  have HLT := Lib.hid hlt
  clear hE hS hlt
  go_enter Tryd.func22, Tryd.ntmps22
  go_wp2_with (first | (at_make; refine wpList_make_full _ rfl _ _ 29 rfl w.heap.size 5 i0 (.int .u8 0) 1 Tryd.underlying29 hi0 hz0 hz1 _ _ _ _ ((l.length + 2) / 3 * 4) rfl rfl (by omega) (by omega) (by rw [hz2]; omega) (by unfold maxLen; omega) (Nat.le_refl _) ?_) | (go_at_call 31; (with_reducible refine (encodedLen_any B l.length _ HE.out (by omega)).mono ?_); rintro e w8 ⟨rfl, hw8⟩; rw [hw8]; clear hw8 w8))
  intro w1 hown hgrow
  have hn := b64_len _ l (Nat.le_refl _)
  have HB1 := Lib.hid ((Below.refl w.heap.size w).grown hgrow (Nat.le_refl _) (fun k hk => by cases hk))
  have HD1 := Lib.hid (buf_owned hown (made_zero _))
  have HE1 := Lib.hid (HE.out.below HE.out.lt HB1.out)
  have HS1 := Lib.hid (HS.out.below HB1.out HS.out.lt)
  have hB := HE.out.lt
  have hG := HS.out.lt
  generalize hD : w.heap.size = D at *
  have HW := Lib.hid hD
  clear hown hgrow HE HS hD
  have HC : Hid (Calls Tryd.prog 32 #[.pointer (some ⟨B, 0, none⟩), .slice (some ⟨D, 0, none⟩) ((l.length + 2) / 3 * 4) ((l.length + 2) / 3 * 4), .slice (some ⟨G, 0, none⟩) l.length gc] w1 fun e w' => e = .returned (.tuple #[]) ∧ Buf D (b64 l) w' ∧ Below D w1 w') := Lib.hid (by
    have := encode_any B D G l (List.replicate ((l.length + 2) / 3 * 4) 0) ((l.length + 2) / 3 * 4) gc w1 HE1.out HS1.out HD1.out (by simp) hl HLT.out (by omega) (by omega) hgc (by simp) (by omega) hbg
    rwa [List.length_replicate] at this)
  obtain ⟨q, hq⟩ := exists_text (b64 l) (b64_256 l)
  go_wp2_with (go_at_call 32; (with_reducible refine HC.out.mono ?_); rintro e w8 ⟨rfl, h8, h9⟩)
  have HT := Lib.hid (buf_text (cap := (l.length + 2) / 3 * 4) h8 hq)
  rw [hn] at HT
  have HB2 := Lib.hid (HB1.out.trans h9)
  clear h8 h9
  have c1 := HT.out
  go_wp2_with fail
  rw [c1]
  go_wp2_with fail
  go_ret
  exact ⟨⟨q, hq, rfl⟩, by rw [HW.out]; exact HB2.out⟩
end Go.Proofs.YtmfbnmjmgpafmaaDoor
