/- url.PathUnescape (28), impl.Percent (5), ParseDataURL (13), DecodeMIMEType (15). -/
import Derived.Test.YtmfbnmjmgpafmaaDoorUnsB
namespace Go.Proofs.YtmfbnmjmgpafmaaDoor
open Go.RowKit
set_option linter.unusedVariables false
set_option linter.unusedSimpArgs false
set_option maxRecDepth 100000 in
theorem pathUnescape_any (s : ByteArray) (w : World) (hs : s.size ≤ 100000) (hwf : Wf (nums s)) (hT : UrlTab 3 w) (hw3 : 3 < w.heap.size) :
    Calls Tryd.prog 28 #[.string s] w fun e w' => (∃ q : ByteArray, nums q = unp (nums s) ∧ e = .returned (.tuple #[.string q, .nilIface])) ∧ Below w.heap.size w w' := by
  have C := Lib.hid (unescape_any s w hs hwf hT hw3)
  clear hwf hT
  go_enter Tryd.func28, Tryd.ntmps28
  go_wp2_with (go_at_call 40; refine C.out.mono ?_; rintro e w1 ⟨⟨q, hq, rfl⟩, hb⟩)
  go_ret2
  exact ⟨⟨q, hq, rfl⟩, hb⟩
set_option maxRecDepth 100000 in
theorem percentImpl_any (m s : ByteArray) (W : World) (hm : m.size ≤ 100) (hs : s.size ≤ 300) (hg : Good s 0) (hc : ∀ i, i < s.size → (nums s).getD i 0 = 9 ∨ (nums s).getD i 0 = 10 ∨ (nums s).getD i 0 = 13 ∨ 32 ≤ (nums s).getD i 0) (hW : 2 ≤ W.heap.size) (hT : Lib.Utf8Tabs 0 1 W) :
    Calls Tryd.prog 5 #[.string m, .string s] W fun e w' => (∃ q : ByteArray, nums q = [100, 97, 116, 97, 58] ++ nums m ++ [44] ++ pctFrom (nums s) (trail (nums s) s.size) 0 ∧ e = .returned (.tuple #[.string q, .bool true])) ∧ Below W.heap.size W w' := by
  have C := Lib.hid (percent_any m s W hm hs hg hc hW hT)
  clear hg hc hT
  go_enter Tryd.func5, Tryd.ntmps5
  go_wp2_with (go_at_call 10; refine C.out.mono ?_; rintro e w1 ⟨⟨q, hq, rfl⟩, hb⟩)
  first | go_ret2 | go_ret
  exact ⟨⟨q, hq, rfl⟩, hb⟩
def css : ByteArray := ⟨#[116, 101, 120, 116, 47, 99, 115, 115]⟩
set_option maxRecDepth 100000 in
theorem mime_any (d : ByteArray) (b : Bool) (w : World) :
    Calls Tryd.prog 15 #[.agg #[.string css, .string d, .bool b]] w fun e w' => e = .returned (.int .u8 1) ∧ Below w.heap.size w w' := by
  have C := Lib.hid (fun W : World => Tryd.strings_IndexByte css 59 W)
  have e1 : Lib.indexByte css.data.toList (59 : Int).toNat.toUInt8 = -1 := by decide +kernel
  rw [e1] at C
  have t1 : (css.toList == [116, 101, 120, 116, 47, 99, 115, 115]) = true := by decide +kernel
  go_enter Tryd.func15, Tryd.ntmps15
  go_wp2_with (go_at_call 24; refine (C.out _).mono ?_; rintro e w1 ⟨rfl, hw⟩; rw [hw]; clear hw w1)
  go_ret
  exact ⟨rfl, below_alloc _⟩
/-- What ParseDataURL finds in a text. -/
structure Cut (s m r : ByteArray) (b : Bool) (k : Nat) : Prop where
  pre : Lib.hasPrefix s.data.toList [100, 97, 116, 97, 58] = true
  idx : Lib.indexByte s.data.toList 44 = (k : Int)
  lo : 5 ≤ k
  hi : k < s.size
  mt : s.extract 5 k = m
  rest : s.extract (k + 1) s.size = r
  suf : Lib.hasSuffix m.data.toList [59, 98, 97, 115, 101, 54, 52] = b
  sz : s.size ≤ 1000000
set_option maxRecDepth 100000 in
set_option maxHeartbeats 4000000 in
theorem parse_any (s m r : ByteArray) (b : Bool) (k : Nat) (w : World) (h : Cut s m r b k) (m2 : ByteArray) (hm2 : b = true → 7 ≤ m.size ∧ m.extract 0 (m.size - 7) = m2) (hm1 : b = false → m2 = m) :
    Calls Tryd.prog 13 #[.string s] w fun e w' => e = .returned (.tuple #[.agg #[.string m2, .string r, .bool b], .bool true]) ∧ Below w.heap.size w w' := by
  have C1 := Lib.hid (fun W : World => Tryd.strings_HasPrefix s ⟨#[100, 97, 116, 97, 58]⟩ W)
  have C2 := Lib.hid (fun W : World => Tryd.strings_IndexByte s 44 W)
  have C3 := Lib.hid (fun W : World => Tryd.strings_HasSuffix m ⟨#[59, 98, 97, 115, 101, 54, 52]⟩ W (by rw [← h.mt]; simp; have := h.hi; have := h.sz; omega))
  have q1 : Lib.hasPrefix s.data.toList (⟨#[100, 97, 116, 97, 58]⟩ : ByteArray).data.toList = true := h.pre
  have q2 : Lib.indexByte s.data.toList (44 : Int).toNat.toUInt8 = (k : Int) := h.idx
  have q3 : Lib.hasSuffix m.data.toList (⟨#[59, 98, 97, 115, 101, 54, 52]⟩ : ByteArray).data.toList = b := h.suf
  rw [q1] at C1
  rw [q2] at C2
  rw [q3] at C3
  have hlo := h.lo
  have hhi := h.hi
  have hsz := h.sz
  have hmt := h.mt
  have hre := h.rest
  have tk : ((k : Int) != -1) = true := by simp
  clear h q1 q2 q3
  cases b with
  | false =>
    obtain rfl := hm1 rfl
    clear hm1 hm2
    go_enter Tryd.func13, Tryd.ntmps13
    go_wp2_with (first | (go_at_call 23; refine (C1.out _).mono ?_; rintro e w1 ⟨rfl, hw⟩; rw [hw]; clear hw w1) | (go_at_call 24; refine (C2.out _).mono ?_; rintro e w1 ⟨rfl, hw⟩; rw [hw]; clear hw w1) | (go_at_call 25; (try rw [hmt]); refine (C3.out _).mono ?_; rintro e w1 ⟨rfl, hw⟩; rw [hw]; clear hw w1))
    refine bodyPost_ret (v := .tuple #[.agg #[.string m2, .string r, .bool false], .bool true]) ?_ rfl ⟨rfl, below_alloc _⟩
    simp [results, Tryd.results13, go_sem]
  | true =>
    obtain ⟨h7, hm3⟩ := hm2 rfl
    clear hm1 hm2
    have hms : m.size ≤ 1000000 := by rw [← hmt]; simp; omega
    go_enter Tryd.func13, Tryd.ntmps13
    go_wp2_with (first | (go_at_call 23; refine (C1.out _).mono ?_; rintro e w1 ⟨rfl, hw⟩; rw [hw]; clear hw w1) | (go_at_call 24; refine (C2.out _).mono ?_; rintro e w1 ⟨rfl, hw⟩; rw [hw]; clear hw w1) | (go_at_call 25; (try rw [hmt]); refine (C3.out _).mono ?_; rintro e w1 ⟨rfl, hw⟩; rw [hw]; clear hw w1))
    refine bodyPost_ret (v := .tuple #[.agg #[.string m2, .string r, .bool true], .bool true]) ?_ rfl ⟨rfl, below_alloc _⟩
    simp [results, Tryd.results13, go_sem]
end Go.Proofs.YtmfbnmjmgpafmaaDoor
