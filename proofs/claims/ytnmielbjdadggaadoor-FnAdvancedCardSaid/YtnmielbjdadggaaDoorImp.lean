/- impl.Advanced leads where spec.Place tells. -/
import Derived.Test.YtnmielbjdadggaaDoorAdv
namespace Go.Proofs.YtnmielbjdadggaaDoor
open Go.RowKit
set_option linter.unusedVariables false
set_option linter.unusedSimpArgs false
theorem heap_at_new (w : World) (o : Obj) (k : Nat) (h : k = w.heap.size) : (w.alloc o).heap[k]? = some o := by subst h; exact heap_alloc_new w o
theorem info23 : (Tryd.prog.info? 23).map (fun i => (i.zero, i.size, i.bytes)) = some (some (.agg #[.int .i64 0, .int .i64 0]), 2, 16) := by kernel_rfl
theorem info34 : (Tryd.prog.info? 34).map (fun i => (i.zero, i.size, i.bytes)) = some (some (.agg #[.int .i64 0, .int .i64 0]), 2, 16) := by kernel_rfl
set_option maxRecDepth 100000 in
set_option maxHeartbeats 4000000 in
theorem advanced_any (s : ByteArray) (l0 c0 : Nat) (bb : Bool) (w : World) (hs : s.size ≤ 1000) (hl : l0 ≤ 10000) (hc : c0 ≤ 10000) (hT : Lib.Utf8Tabs 0 1 w) (hB : 1 < w.heap.size) :
    Calls Tryd.prog 6 #[.agg #[.int .i64 l0, .int .i64 c0], .string s, .bool bb] w fun e w' => e = .returned (.agg #[.int .i64 (place s l0 c0).1, .int .i64 (place s l0 c0).2]) ∧ Below w.heap.size w w' := by
  obtain ⟨W3, hW3⟩ : ∃ W3, W3 = ((w.alloc (Obj.cells #[Value.int IntKind.i64 l0, Value.int IntKind.i64 c0] 23)).alloc (Obj.cells #[Value.int IntKind.i64 0, Value.int IntKind.i64 0] 23)).alloc (Obj.cells #[Value.int IntKind.i64 l0, Value.int IntKind.i64 c0] 34) := ⟨_, rfl⟩
  have hV3 : Vec W3 (w.heap.size + 1 + 1) 34 (ints2 l0 c0) := by subst hW3; exact heap_at_new _ _ _ (by simp)
  have hV2 : Vec W3 (w.heap.size + 1) 23 (ints2 0 0) := by
    subst hW3; exact (Below.heap_alloc _ _ _ (by simp)).trans (heap_at_new _ _ _ (by simp))
  have hb3 : Below w.heap.size w W3 := by
    subst hW3; exact (((Below.refl _ w).alloc (Nat.le_refl _) _).alloc (by simp) _).alloc (by simp; omega) _
  have hsz3 : W3.heap.size = w.heap.size + 1 + 1 + 1 := by subst hW3; simp
  obtain ⟨L, hL⟩ : ∃ L, (place s l0 c0).1 = L := ⟨_, rfl⟩
  obtain ⟨C, hC⟩ : ∃ C, (place s l0 c0).2 = C := ⟨_, rfl⟩
  have hend : ∀ w' : World, Vec w' (w.heap.size + 1 + 1) 34 (ints2 L C) → Below (w.heap.size + 1 + 1) W3 w' → Hid (Below w.heap.size w w') ∧ w'.cell? ⟨w.heap.size + 1 + 1, 0, none⟩ = some (.int .i64 L) ∧ w'.cell? ⟨w.heap.size + 1 + 1, 1, none⟩ = some (.int .i64 C) ∧
      w'.cell? ⟨w.heap.size + 1, 0, none⟩ = some (.int .i64 0) ∧ w'.cell? ⟨w.heap.size + 1, 1, none⟩ = some (.int .i64 0) ∧ (∀ j, w'.frozen? ⟨w.heap.size + 1, j, none⟩ = false) ∧ Hid (Vec w' (w.heap.size + 1) 23 (ints2 0 0)) := fun w' hv hb =>
    have e : Vec w' (w.heap.size + 1) 23 (ints2 0 0) := (hb.block _ (by omega)).trans hV2
    ⟨hb3.trans (hb.mono (by omega)), hv.cell (at0 L C), hv.cell (at1 L C), e.cell (at0 0 0), e.cell (at1 0 0), e.free, e⟩
  cases bb
  · have CS := Lib.hid (string_any (w.heap.size + 1 + 1) s l0 c0 W3 hs hl hc hV3)
    rw [hL, hC] at *
    rw [hW3] at CS
    have HE := Lib.hid hend
    clear hend hV3 hV2 hb3 hsz3 hT hL hC
    go_enter Tryd.func6, Tryd.ntmps6
    go_wp2_with (go_at_call 8; refine CS.out.mono ?_; rintro e w' ⟨rfl, hv, hb⟩; obtain ⟨hx1, hx2, hx3, hx4, hx5, hx6, hx7⟩ := HE.out w' hv (by rw [hW3]; exact hb); clear hv hb)
    have hz := (hx7.out.set 0 (.int .i64 L)).set 1 (.int .i64 C)
    have hz0 := hz.cell (at0 L C)
    have hz1 := hz.cell (at1 L C)
    have hzb := (hx1.out.setCell (p := ⟨w.heap.size + 1, 0, none⟩) (by simp) (.int .i64 L)).setCell (p := ⟨w.heap.size + 1, 1, none⟩) (by simp) (.int .i64 C)
    refine bodyPost_ret (v := .agg #[.int .i64 L, .int .i64 C]) (by simp [results, Tryd.results6, go_sem, hz0, hz1]) rfl ⟨rfl, hzb⟩
  · have hcv : ∃ cap W', (convert 9 36 (.string s)).run Tryd.prog W3 = .ok (.slice (some ⟨w.heap.size + 1 + 1 + 1, 0, none⟩) s.size cap) W' ∧ s.size ≤ cap ∧ Below W3.heap.size W3 W' ∧ W3.heap.size < W'.heap.size ∧ BytesIn s W3.heap.size W' := by
      refine ⟨_, _, (run_bytes_of_string W3 9 36 5 s Tryd.underlying9 Tryd.underlying36 Tryd.underlying5).trans (by rw [hsz3]), grownCap_ge _ _ _ _, ((Below.refl _ W3).drew).alloc (Nat.le_refl _) _, by simp, ?_⟩
      intro j hj
      have hj' : j < s.data.size := hj
      have := World.cell?_alloc_mark W3.drew (bytesRow s (grownCap W3 s.size 0 5)) 5 ((bytesRow s (grownCap W3 s.size 0 5)).size, (bytesRow s (grownCap W3 s.size 0 5)).size + 1) j
      refine this.trans ?_
      rw [bytesRow_at s _ j hj']
      show _ = some (Value.int .u8 ((s.data[j]!).toNat : Int))
      rw [getElem!_pos s.data j hj']
    obtain ⟨cap, W', hrun, hcap, hbw, hszw, hby⟩ := hcv
    have hTW : Lib.Utf8Tabs 0 1 W' := tabs_below (tabs_below hT hB hb3) (by omega) hbw
    have CS := Lib.hid (bytes_any (w.heap.size + 1 + 1) W3.heap.size cap s l0 c0 W' hs hl hc ((hbw.block _ (by omega)).trans hV3) (by omega) (by omega) hszw hcap hTW hby)
    rw [hL, hC] at *
    have HE := Lib.hid hend
    rw [hsz3] at CS
    rw [hsz3] at hbw
    rw [hW3] at hrun
    have HBW := Lib.hid hbw
    clear hend hV3 hV2 hb3 hT hL hC hTW hby hbw
    go_enter Tryd.func6, Tryd.ntmps6
    go_wp2_with (go_at_call 7; refine CS.out.mono ?_; rintro e w' ⟨rfl, hv, hb⟩; obtain ⟨hx1, hx2, hx3, hx4, hx5, hx6, hx7⟩ := HE.out w' hv ((HBW.out.mono (by omega)).trans hb); clear hv hb)
    have hz := (hx7.out.set 0 (.int .i64 L)).set 1 (.int .i64 C)
    have hz0 := hz.cell (at0 L C)
    have hz1 := hz.cell (at1 L C)
    have hzb := (hx1.out.setCell (p := ⟨w.heap.size + 1, 0, none⟩) (by simp) (.int .i64 L)).setCell (p := ⟨w.heap.size + 1, 1, none⟩) (by simp) (.int .i64 C)
    refine bodyPost_ret (v := .agg #[.int .i64 L, .int .i64 C]) (by simp [results, Tryd.results6, go_sem, hz0, hz1]) rfl ⟨rfl, hzb⟩
end Go.Proofs.YtnmielbjdadggaaDoor
