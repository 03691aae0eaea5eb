/- DecodeData (14), impl.DataOf (9). -/
import Derived.Test.YtmfbnmjmgpafmaaDoorShoA
import Derived.Deep.RegionWith
namespace Go.Proofs.YtmfbnmjmgpafmaaDoor
open Go.RowKit
set_option linter.unusedVariables false
set_option linter.unusedSimpArgs false
theorem cel_text {W : World} {D cap : Nat} {l : List Nat} {q : ByteArray} (h : Cel D l W) (hq : nums q = l) : (convert 29 9 (.slice (some ⟨D, 0, none⟩) l.length cap)).run Tryd.prog W = .ok (.string q) W := by
  have hl : q.data.toList.length = l.length := by rw [← hq]; simp [nums]
  have := run_convert_bytes_back (P := Tryd.prog) W 29 9 5 ⟨D, 0, none⟩ cap q.data.toList Tryd.underlying29 Tryd.underlying5 Tryd.underlying9 (fun j hj => by
    rw [Addr.add_mid, Nat.zero_add]
    rw [h.cell (by omega), ← hq]
    simp [nums, List.getD, List.getElem?_eq_getElem hj])
  rw [hl] at this
  exact this
set_option maxRecDepth 1000000 in
set_option maxHeartbeats 8000000 in
theorem decodeData64_any (m s : ByteArray) (t : List Nat) (w : World) (hs : nums s = b64 t) (ht : t.length ≤ 1000) (hlt : ∀ b ∈ t, b < 256) :
    Calls Tryd.prog 14 #[.agg #[.string m, .string s, .bool true]] w fun e w' => (∃ q : ByteArray, nums q = t ∧ e = .returned (.tuple #[.string q, .nilIface])) ∧ Below w.heap.size w w' := by
  have D1 := Lib.hid (fun W : World => newEncoding_any W)
  unfold alph at D1
  have D2 := Lib.hid (fun (B : Nat) (W : World) (h : EncAt B W) => decodeString_any B s t W h hs ht hlt)
  clear hs
  go_enter Tryd.func14, Tryd.ntmps14
  go_wp2_with fail
  obtain ⟨q, hq⟩ := exists_text t hlt
  have hB0 := Lib.hid (below_alloc (w := w) (Obj.cells #[Value.string m, Value.string s, Value.bool true] 38))
  obtain ⟨N, hN⟩ : ∃ N, w.heap.size = N := ⟨_, rfl⟩
  have c0 : (w.alloc (Obj.cells #[Value.string m, Value.string s, Value.bool true] 38)).cell? ⟨N, 1, none⟩ = some (.string s) := by
    rw [← hN, World.cell?, heap_alloc_new]
    rfl
  have hlt : N < (w.alloc (Obj.cells #[Value.string m, Value.string s, Value.bool true] 38)).heap.size := by rw [World.size_alloc]; omega
  have HW := Lib.hid hN
  rw [hN] at hB0 ⊢
  clear hN
  generalize w.alloc (Obj.cells #[Value.string m, Value.string s, Value.bool true] 38) = w0 at hB0 c0 hlt ⊢
  go_region_with (first
    | (go_at_call 21; refine (D1.out _).mono ?_; rintro e w1 ⟨rfl, h1, h2⟩; have c1 : w1.cell? ⟨N, 1, none⟩ = some (.string s) := (h2.cell hlt).trans c0)
    | (go_at_call 26; refine (D2.out _ _ h1).mono ?_; rintro e w2 ⟨⟨D, cap, l, rfl, g1, g2, g3⟩, g4⟩))
  all_goals (
    have hz1 : w0.drew.heap.size = w0.heap.size := rfl
    have hz2 := h1.lt
    have HB := Lib.hid (((hB0.out.drew).trans (h2.mono (by omega))).trans (g4.mono (by omega)))
    have HT := cel_text (cap := cap) (⟨g3.lt, fun j hj => by rw [g3.cell (by omega), g2 j hj]⟩ : Cel D t w2) hq
    clear hz1 hz2 hB0 h1 h2 g1 g2 g3 g4 c0 c1 hlt
    go_wp2_with fail
    first | (go_ret2; exact ⟨⟨q, hq, rfl⟩, by rw [HW.out]; exact HB.out⟩) | (rw [HT]; go_wp2_with fail; go_ret2; exact ⟨⟨q, hq, rfl⟩, by rw [HW.out]; exact HB.out⟩))
set_option maxRecDepth 1000000 in
set_option maxHeartbeats 8000000 in
theorem decodeDataPct_any (m s : ByteArray) (w : World) (hs : s.size ≤ 100000) (hwf : Wf (nums s)) (hT : UrlTab 3 w) (hw3 : 3 < w.heap.size) :
    Calls Tryd.prog 14 #[.agg #[.string m, .string s, .bool false]] w fun e w' => (∃ q : ByteArray, nums q = unp (nums s) ∧ e = .returned (.tuple #[.string q, .nilIface])) ∧ Below w.heap.size w w' := by
  have hB0 := Lib.hid (below_alloc (w := w) (Obj.cells #[Value.string m, Value.string s, Value.bool false] 38))
  have hsz : (w.alloc (Obj.cells #[Value.string m, Value.string s, Value.bool false] 38)).heap.size = w.heap.size + 1 := World.size_alloc _ _
  have C := Lib.hid (pathUnescape_any s _ hs hwf (url_below hT hw3 hB0.out) (by rw [hsz]; omega))
  clear hwf hT
  go_enter Tryd.func14, Tryd.ntmps14
  go_wp2_with (go_at_call 28; refine C.out.mono ?_; rintro e w1 ⟨⟨q, hq, rfl⟩, hb⟩)
  have HB := Lib.hid (hB0.out.trans (hb.mono (by omega)))
  go_ret2
  exact ⟨⟨q, hq, rfl⟩, HB.out⟩
end Go.Proofs.YtmfbnmjmgpafmaaDoor
