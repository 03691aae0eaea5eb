/- EncodeStringAsShortestDataURL (11), impl.Shortest (6). -/
import Derived.Test.YtmfbnmjmgpafmaaDoorDecS
import Derived.Test.YtmfbnmjmgpafmaaDoorNewE
namespace Go.Proofs.YtmfbnmjmgpafmaaDoor
open Go.RowKit
set_option linter.unusedVariables false
set_option linter.unusedSimpArgs false
/-- The percent-escaped form. -/
def pUrl (m t : List Nat) : List Nat := [100, 97, 116, 97, 58] ++ m ++ [44] ++ pctFrom t (trail t t.length) 0
/-- The form in base 64. -/
def bUrl (m t : List Nat) : List Nat := [100, 97, 116, 97, 58] ++ m ++ [59, 98, 97, 115, 101, 54, 52, 44] ++ b64 t
/-- The shorter one. -/
def sUrl (m t : List Nat) : List Nat := if (pUrl m t).length < (bUrl m t).length then pUrl m t else bUrl m t
set_option maxRecDepth 1000000 in
set_option maxHeartbeats 8000000 in
theorem shortest_any (m s : ByteArray) (W : World) (hm : m.size ≤ 100) (hs : s.size ≤ 300) (hg : Good s 0) (hc : ∀ i, i < s.size → (nums s).getD i 0 = 9 ∨ (nums s).getD i 0 = 10 ∨ (nums s).getD i 0 = 13 ∨ 32 ≤ (nums s).getD i 0) (hW : 2 ≤ W.heap.size) (hT : Lib.Utf8Tabs 0 1 W) :
    Calls Tryd.prog 11 #[.string m, .string s] W fun e w' => (∃ q : ByteArray, nums q = sUrl (nums m) (nums s) ∧ e = .returned (.string q)) ∧ Below W.heap.size W w' := by
  have D1 := Lib.hid (fun W : World => newEncoding_any W)
  unfold alph at D1
  have hsl : (nums s).length = s.size := nums_len s
  have HSL := Lib.hid hsl
  have HG := Lib.hid hg
  have HC := Lib.hid hc
  have HT := Lib.hid hT
  clear hg hc hT hsl
  go_enter Tryd.func11, Tryd.ntmps11
  go_wp2_with (go_at_call 21; refine (D1.out _).mono ?_; rintro e w1 ⟨rfl, h1, h2⟩)
  obtain ⟨w2, sc, hr, g1, g2, g3, g4⟩ := made_bytes s w1 (by omega)
  have hB1 := h1.lt
  have HE2 := Lib.hid (h1.below h1.lt g1)
  have HB2 := Lib.hid (h2.trans (g1.mono (Nat.le_of_lt hB1)))
  have HS2 := Lib.hid (g2 : Cel w1.heap.size (nums s) w2)
  have HQ := Lib.hid (encodeToString_any W.heap.size w1.heap.size (nums s) sc w2 HE2.out HS2.out (by rw [HSL.out]; omega) (nums_lt s) (by rw [HSL.out]; exact g3) g4)
  rw [HSL.out] at HQ
  have hB3 := HE2.out.lt
  rw [hr]
  clear g1 g2 g3 g4 h1 h2 HE2 HS2
  go_wp2_with (go_at_call 22; (with_reducible refine HQ.out.mono ?_); rintro e w3 ⟨⟨q, hq, rfl⟩, h3⟩; have hqs : q.size ≤ 1000 := by rw [← nums_len, hq, b64_len _ _ (Nat.le_refl _), HSL.out]; omega)
  have HB3 := Lib.hid (HB2.out.trans (h3.mono (Nat.le_of_lt hB3)))
  have hsz3 := HB3.out.size
  have HP := Lib.hid (percent_any m s w3 hm hs HG.out HC.out (by omega) (by exact tabs_below HT.out (by omega) HB3.out))
  obtain ⟨U, hU⟩ : ∃ U, ((⟨#[100, 97, 116, 97, 58]⟩ : ByteArray) ++ m ++ ⟨#[59, 98, 97, 115, 101, 54, 52, 44]⟩ ++ q) = U := ⟨_, rfl⟩
  have HU : Hid (nums U = bUrl (nums m) (nums s)) := Lib.hid (by rw [← hU, append_nums, append_nums, append_nums, hq]; rfl)
  clear HQ hr hB1 hB3 h3 HB2
  have HPL : Hid (nums s = nums s ∧ trail (nums s) s.size = trail (nums s) (nums s).length) := Lib.hid ⟨rfl, by rw [HSL.out]⟩
  by_cases hlt : (pUrl (nums m) (nums s)).length < (bUrl (nums m) (nums s)).length
  · have HI := Lib.hid hlt
    clear hlt
    go_wp2_with (go_at_call 10; (with_reducible refine HP.out.mono ?_); rintro e w4 ⟨⟨p, hp, rfl⟩, h4⟩; rw [HPL.out.2] at hp; have t1 : decide (p.size < U.size) = true := decide_eq_true (by have e1 := congrArg List.length hp; have e2 := congrArg List.length HU.out; rw [nums_len] at e1 e2; have := HI.out; unfold pUrl at this; omega))
    go_ret
    refine ⟨⟨p, ?_, rfl⟩, HB3.out.trans (h4.mono hsz3)⟩
    rw [sUrl, if_pos HI.out]
    exact hp
  · have HI := Lib.hid hlt
    clear hlt
    go_wp2_with (go_at_call 10; (with_reducible refine HP.out.mono ?_); rintro e w4 ⟨⟨p, hp, rfl⟩, h4⟩; rw [HPL.out.2] at hp; have t1 : decide (p.size < U.size) = false := decide_eq_false (by have e1 := congrArg List.length hp; have e2 := congrArg List.length HU.out; rw [nums_len] at e1 e2; have := HI.out; unfold pUrl at this; omega))
    go_ret
    refine ⟨⟨U, ?_, rfl⟩, HB3.out.trans (h4.mono hsz3)⟩
    rw [sUrl, if_neg HI.out]
    exact HU.out
set_option maxRecDepth 100000 in
theorem shortestImpl_any (m s : ByteArray) (W : World) (hm : m.size ≤ 100) (hs : s.size ≤ 300) (hg : Good s 0) (hc : ∀ i, i < s.size → (nums s).getD i 0 = 9 ∨ (nums s).getD i 0 = 10 ∨ (nums s).getD i 0 = 13 ∨ 32 ≤ (nums s).getD i 0) (hW : 2 ≤ W.heap.size) (hT : Lib.Utf8Tabs 0 1 W) :
    Calls Tryd.prog 6 #[.string m, .string s] W fun e w' => (∃ q : ByteArray, nums q = sUrl (nums m) (nums s) ∧ e = .returned (.string q)) ∧ Below W.heap.size W w' := by
  have C := Lib.hid (shortest_any m s W hm hs hg hc hW hT)
  clear hg hc hT
  go_enter Tryd.func6, Tryd.ntmps6
  go_wp2_with (go_at_call 11; refine C.out.mono ?_; rintro e w1 ⟨⟨q, hq, rfl⟩, hb⟩)
  go_ret
  exact ⟨⟨q, hq, rfl⟩, hb⟩
end Go.Proofs.YtmfbnmjmgpafmaaDoor
