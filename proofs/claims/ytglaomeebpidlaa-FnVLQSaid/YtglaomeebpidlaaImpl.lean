/- What impl.VLQ tells of the letters of digits. -/
import Derived.Test.YtglaomeebpidlaaCalm
import Derived.Lib.ConvBytes
import Derived.RegionTactic
import Derived.BigRegion
import Derived.ChangeAlike
namespace Go.Proofs.Ytglaomeebpidlaa
open Go.RowKit
set_option linter.unusedVariables false
set_option linter.unusedSimpArgs false
theorem made_bytes (s : ByteArray) (w : World) : ∃ (W0 : World) (cap : Nat), (convert 9 35 (.string s)).run Try.prog w = .ok (.slice (some ⟨w.heap.size, 0, none⟩) s.size cap) W0 ∧ Below w.heap.size w W0 ∧ ∀ j (hj : j < s.size), W0.cell? ⟨w.heap.size, j, none⟩ = some (.int .u8 ((s[j]'hj).toNat : Int)) := by
  refine ⟨Lib.bytesWorld w 5 s, _, Lib.run_convert_string_bytes w 9 35 5 s Try.underlying9 Try.underlying35 Try.underlying5, ⟨rfl, rfl, rfl, by rw [Lib.bytesWorld_size]; omega, fun k hk => Lib.bytesWorld_at_old w 5 s k hk⟩, fun j hj => ?_⟩
  have h1 : j < (s.data.map fun b => Value.int .u8 (b.toNat : Int)).size := by simpa using hj
  have h2 : (Lib.bytesCells w 5 s)[j]? = some (.int .u8 ((s[j]'hj).toNat : Int)) := by
    unfold Lib.bytesCells
    rw [Array.getElem?_append_left h1, Array.getElem?_map]
    have : s.data[j]? = some (s[j]'hj) := by rw [Array.getElem?_eq_getElem (by simpa using hj)]; rfl
    rw [this]; rfl
  have h3 := Lib.bytesWorld_at_new w 5 s
  simp only [World.cell?, h3]
  exact h2
def Told (B : Nat) (a c : Int) (w w' : World) : Prop := w'.heap[B + 2]? = some (.cells #[.int .i64 a] 3 (0, 0)) ∧ w'.heap[B + 3]? = some (.cells #[.int .i64 c] 3 (0, 0)) ∧ Below B w w'
set_option maxRecDepth 100000 in
set_option maxHeartbeats 4000000 in
theorem vlqf_any (s : ByteArray) (st V : Nat) (rest : List UInt8) (B : Nat) (w : World) (hz : s.size ≤ 1000) (hE : s.data.toList.drop st = letters (digs V) ++ rest) (hV : V < 2147483648)
    (h0 : w.heap[B]? = some (.cells #[.string s] 9 (0, 0))) (h1 : w.heap[B + 1]? = some (.cells #[.int .i64 (st : Int)] 3 (0, 0))) (h2 : w.heap[B + 2]? = some (.cells #[.int .i64 0] 3 (0, 0))) (h3 : w.heap[B + 3]? = some (.cells #[.int .i64 0] 3 (0, 0)))
    (h4 : w.heap[B + 4]? = some (.cells #[.bool false] 4 (0, 0))) :
    Calls Try.prog 9 #[.pointer (some ⟨B, 0, none⟩), .pointer (some ⟨B + 1, 0, none⟩), .pointer (some ⟨B + 2, 0, none⟩), .pointer (some ⟨B + 3, 0, none⟩)] w fun e w' =>
      e = .returned (.tuple #[]) ∧ w'.heap[B + 4]? = some (.cells #[.bool false] 4 (0, 0)) ∧ Told B (numOf V) ((st + (digs V).length : Nat) : Int) w w' := by
  have hB4 := lt_of_block h4
  obtain ⟨W0, cap, hcv, hb0, hcell⟩ := made_bytes s w
  have old : ∀ {k : Nat} {o : Obj}, w.heap[k]? = some o → W0.heap[k]? = some o := fun {k o} hk => by rw [hb0.block k (lt_of_block hk)]; exact hk
  have k1 := old h1
  have k2 := old h2
  have k3 := old h3
  have k4 := old h4
  have c0 := cell_of_one h0
  have c1 := cell_of_one k1
  have c2 := cell_of_one k2
  have c3 := cell_of_one k3
  have f2 := free_of_one k2
  have f3 := free_of_one k3
  have C := dec_any w.heap.size 0 s.size cap s.data.toList rest V st W0 (by simp) hz (fun j h => by
    rw [Nat.zero_add, hcell j (by simpa using h)]; rfl) hE hV
  have K2 := Lib.hid k2
  have K3 := Lib.hid k3
  have K4 := Lib.hid k4
  have HB0 := Lib.hid hb0
  obtain ⟨L, hL⟩ : ∃ L : Nat, L = st + (digs V).length := ⟨_, rfl⟩
  rw [← hL] at C ⊢
  obtain ⟨x, hx⟩ : ∃ x, x = numOf V := ⟨_, rfl⟩
  rw [← hx] at C ⊢
  have HC := Lib.hid C
  have hcell := Lib.hid hcell
  clear C hx hL h0 h1 h2 h3 h4 k1 k2 k3 k4 hb0 old hE
  go_enter Try.func9, Try.ntmps9
  go_wp2_with (first | (go_at_call 10; refine HC.out.mono ?_; rintro e w' ⟨rfl, rfl⟩) | fail)
  have hs2 := one_setCell (u := .int .i64 x) K2.out
  have q3 : ((W0.setCell ⟨B + 2, 0, none⟩ (.int .i64 x)).heap[B + 3]?) = some (.cells #[.int .i64 0] 3 (0, 0)) := (Below.heap_setCell _ _ _ _ (by simp)).trans K3.out
  have hs3 := one_setCell (u := .int .i64 (L : Int)) q3
  have q2 := (Below.heap_setCell (W0.setCell ⟨B + 2, 0, none⟩ (.int .i64 x)) ⟨B + 3, 0, none⟩ (.int .i64 (L : Int)) (B + 2) (by simp)).trans hs2
  have q4 := (Below.heap_setCell (W0.setCell ⟨B + 2, 0, none⟩ (.int .i64 x)) ⟨B + 3, 0, none⟩ (.int .i64 (L : Int)) (B + 4) (by simp)).trans ((Below.heap_setCell W0 ⟨B + 2, 0, none⟩ (.int .i64 x) (B + 4) (by simp)).trans K4.out)
  go_end0
  exact ⟨rfl, q4, q2, hs3, ((HB0.out.mono (by omega)).setCell (by simp) _).setCell (by simp) _⟩
theorem at_new (w : World) (o : Obj) (k : Nat) (h : k = w.heap.size) : (w.alloc o).heap[k]? = some o := by subst h; exact heap_alloc_new w o
theorem at_old {w : World} {o' : Obj} {k : Nat} (h : w.heap[k]? = some o') (o : Obj) : (w.alloc o).heap[k]? = some o' := (Below.heap_alloc w o k (lt_of_block h)).trans h
/-- The four variables of impl.VLQ, and calm's own. -/
theorem five (w : World) (a b c d e : Obj) : let W := ((((w.alloc a).alloc b).alloc c).alloc d).alloc e
    W.heap[w.heap.size]? = some a ∧ W.heap[w.heap.size + 1]? = some b ∧ W.heap[w.heap.size + 2]? = some c ∧ W.heap[w.heap.size + 3]? = some d ∧ W.heap[w.heap.size + 4]? = some e :=
  ⟨at_old (at_old (at_old (at_old (at_new w a _ rfl) b) c) d) e, at_old (at_old (at_old (at_new _ b _ (by simp)) c) d) e, at_old (at_old (at_new _ c _ (by simp)) d) e, at_old (at_new _ d _ (by simp)) e, at_new _ e _ (by simp)⟩
set_option maxRecDepth 100000 in
set_option maxHeartbeats 4000000 in
theorem vlq_any (s : ByteArray) (st V : Nat) (rest : List UInt8) (w : World) (hz : s.size ≤ 1000) (hE : s.data.toList.drop st = letters (digs V) ++ rest) (hV : V < 2147483648) :
    Calls Try.prog 5 #[.string s, .int .i64 (st : Int)] w fun e w' => e = .returned (.tuple #[.int .i64 (numOf V), .int .i64 ((st + (digs V).length : Nat) : Int), .bool true]) ∧ Below w.heap.size w w' := by
  obtain ⟨L, hL⟩ : ∃ L : Nat, L = st + (digs V).length := ⟨_, rfl⟩
  obtain ⟨x, hx⟩ : ∃ x, x = numOf V := ⟨_, rfl⟩
  rw [← hL, ← hx]
  have HL := Lib.hid hL
  have HX := Lib.hid hx
  clear hL hx
  have hmf : ∀ (fn : Fn) (first cap : Array Value) (w : World), (Instr.makeFunc fn first cap).run Try.prog w = .ok (.func fn first cap) w := fun _ _ _ _ => rfl
  have HE := Lib.hid hE
  clear hE
  go_enter Try.func5, Try.ntmps5
  go_wp2_with fail
  obtain ⟨b0, b1, b2, b3, b4⟩ := five w (.cells #[.string s] 9) (.cells #[.int .i64 (st : Int)] 3) (.cells #[.int .i64 0] 3) (.cells #[.int .i64 0] 3) (.cells #[.bool false] 4)
  have CF := vlqf_any s st V rest w.heap.size _ hz HE.out hV b0 b1 b2 b3 b4
  rw [← HL.out, ← HX.out] at CF
  clear b0 b1 b2 b3 b4
  refine (calm_of _ _ _ (by simpa using CF)).mono ?_
  clear CF
  simp only [World.size_alloc]
  rintro e w' ⟨rfl, w1, ⟨g2, g3, hb⟩, g4, rfl⟩
  have d2 := (Below.heap_setCell w1 ⟨w.heap.size + 4, 0, none⟩ (.bool true) (w.heap.size + 2) (by simp)).trans g2
  have d3 := (Below.heap_setCell w1 ⟨w.heap.size + 4, 0, none⟩ (.bool true) (w.heap.size + 3) (by simp)).trans g3
  have hb2 := Lib.hid (((((((Below.refl w.heap.size w).alloc (Nat.le_refl _) _).alloc (by simp) _).alloc (by simp; omega) _).alloc (by simp; omega) _).alloc (by simp; omega) _).trans hb |>.setCell (p := ⟨w.heap.size + 4, 0, none⟩) (by simp) (.bool true))
  generalize w1.setCell ⟨w.heap.size + 4, 0, none⟩ (.bool true) = W at *
  have c2 : W.cell? ⟨w.heap.size + 1 + 1, 0, none⟩ = some (.int .i64 x) := cell_of_one d2
  have c3 : W.cell? ⟨w.heap.size + 1 + 1 + 1, 0, none⟩ = some (.int .i64 (L : Int)) := cell_of_one d3
  have f2 : W.frozen? ⟨w.heap.size + 1 + 1, 0, none⟩ = false := free_of_one d2
  have f3 : W.frozen? ⟨w.heap.size + 1 + 1 + 1, 0, none⟩ = false := free_of_one d3
  clear g2 g3 g4 hb d2 d3
  go_wp2
  go_region
  all_goals go_wp2
  all_goals exact bodyPost_ret (v := .tuple #[.int .i64 x, .int .i64 (L : Int), .bool true]) (by simp [results, Try.results5, go_sem, c2, c3, f2, f3]) rfl ⟨rfl, ((hb2.out.setCell (by show w.heap.size ≤ w.heap.size + 1 + 1; omega) _).setCell (by show w.heap.size ≤ w.heap.size + 1 + 1 + 1; omega) _).drew⟩
end Go.Proofs.Ytglaomeebpidlaa
