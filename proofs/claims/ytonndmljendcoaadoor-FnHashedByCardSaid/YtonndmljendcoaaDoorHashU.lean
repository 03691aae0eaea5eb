/- HashedBy's closure: what holds at its loop's head, and what each way of a round does to it. -/
import Derived.Test.YtonndmljendcoaaDoorHashW
import Derived.Test.YtonndmljendcoaaDoorHashK
import Derived.Test.YtonndmljendcoaaDoorHashF
import Derived.Deep.AppendLies
import Derived.Laws.AppendOwnNone
namespace Go.Proofs.YtonndmljendcoaaDoor
open Go.RowKit
set_option linter.unusedVariables false
set_option linter.unusedSimpArgs false
theorem own_of {w w' : World} {base : Nat} {e : TypeId} {size : Nat} {v : Value} {n : Nat} {xs : List Value} (h : w.ownsRow base e size v n xs) (hk : ∀ g cur, base ≤ g → w.heap[g]? = some (.cells cur e (0, 0)) → w'.heap[g]? = w.heap[g]?) : w'.ownsRow base e size v n xs :=
  ⟨h.1, h.2.imp id fun ⟨g, cap, cur, h1, h2, h3, h4⟩ => ⟨g, cap, cur, h1, h2, (hk g cur h2 h3).trans h3, h4⟩⟩
theorem own_low {w : World} {base base' : Nat} {e : TypeId} {size : Nat} {v : Value} {n : Nat} {xs : List Value} (h : w.ownsRow base e size v n xs) (hb : base' ≤ base) : w.ownsRow base' e size v n xs :=
  ⟨h.1, h.2.imp id fun ⟨g, cap, cur, h1, h2, h3, h4⟩ => ⟨g, cap, cur, h1, Nat.le_trans hb h2, h3, h4⟩⟩
theorem own_below {w w' : World} {base : Nat} {e : TypeId} {size : Nat} {v : Value} {n : Nat} {xs : List Value} (h : w.ownsRow base e size v n xs) (hb : Below w.heap.size w w') : w'.ownsRow base e size v n xs :=
  own_of h fun g cur _ hg => hb.block g (Array.getElem?_eq_some_iff.1 hg).1
/-- The row that a value owns begins at a block of its own element's type. -/
theorem own_type {w : World} {base : Nat} {e : TypeId} {size : Nat} {v : Value} {n : Nat} {xs : List Value} (h : w.ownsRow base e size v n xs) (k : Nat) (hk : v.ownBlock = some k) : base ≤ k ∧ ∃ cur, w.heap[k]? = some (.cells cur e (0, 0)) := by
  rcases h.2 with ⟨rfl, _⟩ | ⟨g, cap, cur, rfl, h2, h3, _⟩
  · simp [Value.ownBlock] at hk
  · simp [Value.ownBlock] at hk; subst hk; exact ⟨h2, cur, h3⟩
theorem Dig.of_heap {w w' : World} {B : Nat} {S : List UInt8} (h : Dig w B S) (hk : w'.heap[B]? = w.heap[B]?) : Dig w' B S := by
  obtain ⟨mem, h1, h2, h3⟩ := h
  refine ⟨mem, h1, h2, ?_⟩
  unfold Vec at h3 ⊢
  exact hk.trans h3
theorem Dig.lt {w : World} {B : Nat} {S : List UInt8} (h : Dig w B S) : B < w.heap.size := by
  obtain ⟨mem, h1, h2⟩ := h
  exact h2.lt
/-- The values are slices of the answers' bytes. -/
def RowsAre (W : World) (lo : Nat) (vals : List Value) (ans : List (List UInt8)) : Prop := vals.length = ans.length ∧ ∀ (j : Nat) v l, vals[j]? = some v → ans[j]? = some l → W.ownsRow lo 5 1 v l.length (byteCells l)
theorem RowsAre.of {W W' : World} {lo : Nat} {vals : List Value} {ans : List (List UInt8)} (h : RowsAre W lo vals ans) (hk : ∀ g cur, lo ≤ g → W.heap[g]? = some (.cells cur 5 (0, 0)) → W'.heap[g]? = W.heap[g]?) : RowsAre W' lo vals ans :=
  ⟨h.1, fun j v l hv hl => own_of (h.2 j v l hv hl) hk⟩
theorem RowsAre.snoc {W : World} {lo : Nat} {vals : List Value} {ans : List (List UInt8)} (h : RowsAre W lo vals ans) {v : Value} {l : List UInt8} (hv : W.ownsRow lo 5 1 v l.length (byteCells l)) : RowsAre W lo (vals ++ [v]) (ans ++ [l]) := by
  refine ⟨by simp [h.1], fun j u m hu hm => ?_⟩
  by_cases hj : j < vals.length
  · rw [List.getElem?_append_left hj] at hu
    rw [List.getElem?_append_left (by rw [← h.1]; exact hj)] at hm
    exact h.2 j u m hu hm
  · have h1 := h.1
    rw [List.getElem?_append_right (by omega)] at hu hm
    by_cases h0 : j - vals.length = 0
    · rw [h0] at hu
      rw [← h1, h0] at hm
      simp at hu hm
      subst hu hm
      exact hv
    · rw [List.getElem?_eq_none (by simp; omega)] at hu
      cases hu
theorem RowsAre.nil (W : World) (lo : Nat) : RowsAre W lo [] [] := ⟨rfl, fun j v l hv => by simp at hv⟩
/-- A step: its kind, its bytes' slice, its bytes. -/
structure Stp where
  kd : Int
  a : Option Addr
  n : Nat
  c : Nat
  l : List UInt8
def Stp.tri (x : Stp) : Int × Option Addr × Nat × Nat := (x.kd, x.a, x.n, x.c)
def Stp.pr (x : Stp) : Int × List UInt8 := (x.kd, x.l)
/-- A step's bytes lie below block B. -/
def Stp.fits (w : World) (B : Nat) (x : Stp) : Prop := SlB w x.a x.n x.c x.l ∧ (∀ g off, x.a = some ⟨g, off, none⟩ → 0 < x.n → g < B) ∧ (x.a = none → x.c = 0)
theorem Stp.fits.of {w w' : World} {B : Nat} {x : Stp} (h : x.fits w B) (hk : ∀ g, g < B → w'.heap[g]? = w.heap[g]?) (hs : w.heap.size ≤ w'.heap.size) : x.fits w' B :=
  ⟨⟨h.1.1, h.1.2.1, (Nat.eq_zero_or_pos x.n).imp id fun hpos => (h.1.2.2.resolve_left (by omega)).imp fun b h2 => h2.imp fun off ⟨ha, hb, hc⟩ => ⟨ha, by omega, fun j hj => (World.cell?_of_block (w := w) (hk b (h.2.1 b off ha hpos))).trans (hc j hj)⟩⟩, h.2⟩
theorem StepsAt.of {w w' : World} {b off : Nat} {xs : List (Int × Option Addr × Nat × Nat)} (h : StepsAt w b off xs) (hb : w'.heap[b]? = w.heap[b]?) : StepsAt w' b off xs :=
  fun j x hx => ⟨(World.cell?_of_block (w := w) hb).trans (h j x hx).1, (World.cell?_of_block (w := w) hb).trans (h j x hx).2⟩
/-- What holds at the loop's head. -/
structure St (w0 : World) (P1 : Nat) (S : List UInt8) (ans : List (List UInt8)) (o : Value) (k : Nat) (vals : List Value) (W : World) : Prop where
  dig : Dig W w0.heap.size S
  out : W.heap[P1]? = some (.cells #[o] 28 (0, 0))
  own : W.ownsRow (w0.heap.size + 1) 22 1 o k vals
  rows : RowsAre W (w0.heap.size + 1) vals ans
  only : Only P1 w0 W
  p1 : P1 < w0.heap.size
theorem St.lt {w0 W : World} {P1 k : Nat} {S : List UInt8} {ans : List (List UInt8)} {o : Value} {vals : List Value} (h : St w0 P1 S ans o k vals W) : w0.heap.size < W.heap.size := h.dig.lt
theorem St.below {w0 W W' : World} {P1 k : Nat} {S : List UInt8} {ans : List (List UInt8)} {o : Value} {vals : List Value} (h : St w0 P1 S ans o k vals W) (hb : Below W.heap.size W W') : St w0 P1 S ans o k vals W' :=
  ⟨h.dig.of_heap (hb.block _ h.lt), (hb.block _ (by have := h.p1; have := h.lt; omega)).trans h.out, own_below h.own hb, h.rows.of fun g cur _ hg => hb.block g (Array.getElem?_eq_some_iff.1 hg).1, h.only.trans (Only.of_below hb), h.p1⟩
theorem Only.more {P1 : Nat} {w0 W W' : World} (h : Only P1 w0 W) (ho : W'.os = W.os) (ht : W'.tape = W.tape) (hu : W'.output = W.output) (hs : W.heap.size ≤ W'.heap.size) (hk : ∀ j, j < w0.heap.size → j ≠ P1 → W'.heap[j]? = W.heap[j]?) : Only P1 w0 W' :=
  ⟨ho.trans h.os, ht.trans h.tape, hu.trans h.output, Nat.le_trans h.size hs, fun j h1 h2 => (hk j h1 h2).trans (h.block j h1 h2)⟩
theorem St.write {w0 W W' : World} {P1 k : Nat} {S S' : List UInt8} {ans : List (List UInt8)} {o : Value} {vals : List Value} (h : St w0 P1 S ans o k vals W) (hd : Dig W' w0.heap.size S') (hb : Only w0.heap.size W W') : St w0 P1 S' ans o k vals W' :=
  ⟨hd, (hb.block _ (by have := h.p1; have := h.lt; omega) (by have := h.p1; omega)).trans h.out, own_of h.own fun g cur hg1 hg => hb.block g (Array.getElem?_eq_some_iff.1 hg).1 (by omega),
    h.rows.of fun g cur hg1 hg => hb.block g (Array.getElem?_eq_some_iff.1 hg).1 (by omega),
    h.only.more hb.os hb.tape hb.output hb.size fun j h1 h2 => hb.block j (by have := h.lt; omega) (by omega), h.p1⟩
theorem St.push {w0 W W1 : World} {P1 k : Nat} {S : List UInt8} {ans : List (List UInt8)} {o o' : Value} {vals : List Value} (h : St w0 P1 S ans o k vals W) {v : Value} {l : List UInt8} (hv : W.ownsRow (w0.heap.size + 1) 5 1 v l.length (byteCells l))
    (hg : W.grownBy W1 o.ownBlock) (ho : W1.ownsRow (w0.heap.size + 1) 22 1 o' (k + 1) (vals ++ [v])) : St w0 P1 S (ans ++ [l]) o' (k + 1) (vals ++ [v]) (W1.setCell ⟨P1, 0, none⟩ o') := by
  have hlt := h.lt
  have hp := h.p1
  have hrow : ∀ g, o.ownBlock = some g → w0.heap.size + 1 ≤ g ∧ ∃ cur, W.heap[g]? = some (.cells cur 22 (0, 0)) := fun g hg => own_type h.own g hg
  have hS : ∀ g, g ≠ P1 → (W1.setCell ⟨P1, 0, none⟩ o').heap[g]? = W1.heap[g]? := fun g hne => Below.heap_setCell W1 _ _ g hne
  have k5 : ∀ g cur, w0.heap.size + 1 ≤ g → W.heap[g]? = some (.cells cur 5 (0, 0)) → (W1.setCell ⟨P1, 0, none⟩ o').heap[g]? = W.heap[g]? := fun g cur hg1 hgg => by
    rw [hS g (by omega)]
    refine hg.block g (Array.getElem?_eq_some_iff.1 hgg).1 fun e => ?_
    obtain ⟨_, cur2, h2⟩ := hrow g e.symm
    rw [hgg] at h2
    simp at h2
  have hP : W1.heap[P1]? = some (.cells #[o] 28 (0, 0)) := (hg.block P1 (by omega) (fun e => by have := (hrow P1 e.symm).1; omega)).trans h.out
  refine ⟨h.dig.of_heap ?_, ?_, ?_, (h.rows.of k5).snoc (own_of hv k5), h.only.more hg.os hg.tape hg.output (by simpa using hg.size) fun j h1 h2 => ?_, hp⟩
  · rw [hS _ (by omega)]
    exact hg.block _ hlt fun e => by have := (hrow _ e.symm).1; omega
  · have := one_setCell (u := o') hP
    exact this
  · exact own_of ho fun g cur hg1 _ => hS g (by omega)
  · rw [hS j h2]
    exact hg.block j (by omega) fun e => by have := (hrow j e.symm).1; omega
theorem run_app_bytes (W : World) (ty : TypeId) (base : Nat) (v : Value) (k : Nat) (xs : List Value) (hown : W.ownsRow base 5 1 v k xs) (b : Option Addr) (n c : Nat) (l : List UInt8) (hS : SlB W b n c l) (h0 : b = none → c = 0) (hk : k + n ≤ 1000000) (hbase : base ≤ W.heap.size) :
    ∃ v' w', (Builtin.append_ #[22, 22] ty #[v, .slice b n c]).run Tryd.prog W = .ok v' w' ∧ w'.ownsRow base 5 1 v' (k + n) (xs ++ byteCells l) ∧ W.grownBy w' v.ownBlock ∧ (v'.ownBlock = v.ownBlock ∨ v'.ownBlock = some W.heap.size) := by
  obtain ⟨i0, hi, hz0, hz1, hz2⟩ := info_parts infoU8
  obtain ⟨h1, h2, h3⟩ := hS
  cases b with
  | none =>
    obtain rfl := h0 rfl
    obtain rfl : n = 0 := by omega
    obtain rfl := List.eq_nil_of_length_eq_zero h1
    exact ⟨v, W, run_append_owned_none (P := Tryd.prog) (w := W) base 22 ty 5 i0 1 Tryd.underlying22 hi v k xs hown, by simpa [byteCells] using hown, World.grownBy.refl _ _, .inl rfl⟩
  | some ad =>
    obtain ⟨v', w', hr, ho, hg, _, hat⟩ := run_append_own_at (P := Tryd.prog) W base 22 ty 5 i0 (.int .u8 0) 1 1 Tryd.underlying22 hi hz0 hz1 hz2 rfl (by decide) v k xs hown ad n c (byteCells l) (by simp [byteCells, h1]) (fun j u hj => by
      rcases h3 with h3 | ⟨g, off, ha, hb, hc⟩
      · obtain rfl := List.eq_nil_of_length_eq_zero (h1.trans h3)
        simp [byteCells] at hj
      · cases ha
        have := bytes_at hc l.length
        rw [List.take_length] at this
        exact this j u hj) (one_bytes l) (by unfold maxLen; omega) (by omega) hbase
    exact ⟨v', w', hr, ho, hg, hat⟩
theorem step_app_bytes {W : World} {ops : Array Oper} {o : Oper} {a : Act} {K : Act → World → Prop} {Q : Exit → Act → World → Prop} {E : Prop} (hgd : o.guard = none) (s x : Operand)
    (ho : o.op = .call { callee := .builtin .append, args := #[s, x], argTypes := #[22, 22] })
    (base : Nat) (v : Value) (k : Nat) (xs : List Value) (hs : a.eval s = v) (hown : W.ownsRow base 5 1 v k xs) (b : Option Addr) (n c : Nat) (l : List UInt8) (hx : a.eval x = .slice b n c) (hS : SlB W b n c l) (h0 : b = none → c = 0) (hk : k + n ≤ 1000000) (hbase : base ≤ W.heap.size)
    (h : ∀ v' w', w'.ownsRow base 5 1 v' (k + n) (xs ++ byteCells l) → W.grownBy w' v.ownBlock → (v'.ownBlock = v.ownBlock ∨ v'.ownBlock = some W.heap.size) → K (a.put o.dst v') w') :
    if Region.wanted o (yielded ops a.tmps) = true then Oper.wp Tryd.prog o a W K Q else E := by
  have hw : Region.wanted o (yielded ops a.tmps) = true := by simp [Region.wanted, hgd]
  rw [if_pos hw]
  obtain ⟨v', w', hr, h2, h3, h4⟩ := run_app_bytes W o.type base v k xs hown b n c l hS h0 hk hbase
  unfold Oper.wp execOp
  simp only [ho, resolve, invoke, builtin, Sem.run_bind, Sem.run_pure, Result.andThen_ok, List.map_toArray, List.map_cons, List.map_nil, hs, hx, hr]
  exact h v' w' h2 h3 h4
theorem wpList_app_bytes {W : World} {ops : Array Oper} {rest : List Oper} {o : Oper} {a : Act} {Q : Exit → Act → World → Prop} (hgd : o.guard = none) (s x : Operand)
    (ho : o.op = .call { callee := .builtin .append, args := #[s, x], argTypes := #[22, 22] })
    (base : Nat) (v : Value) (k : Nat) (xs : List Value) (hs : a.eval s = v) (hown : W.ownsRow base 5 1 v k xs) (b : Option Addr) (n c : Nat) (l : List UInt8) (hx : a.eval x = .slice b n c) (hS : SlB W b n c l) (h0 : b = none → c = 0) (hk : k + n ≤ 1000000) (hbase : base ≤ W.heap.size)
    (h : ∀ v' w', w'.ownsRow base 5 1 v' (k + n) (xs ++ byteCells l) → W.grownBy w' v.ownBlock → (v'.ownBlock = v.ownBlock ∨ v'.ownBlock = some W.heap.size) → wpList Tryd.prog ops Q rest (a.put o.dst v') w') :
    wpList Tryd.prog ops Q (o :: rest) a W := by
  refine wpList_plain hgd fun K hK => ?_
  obtain ⟨v', w', hr, h2, h3, h4⟩ := run_app_bytes W o.type base v k xs hown b n c l hS h0 hk hbase
  unfold Oper.wp execOp
  simp only [ho, resolve, invoke, builtin, Sem.run_bind, Sem.run_pure, Result.andThen_ok, List.map_toArray, List.map_cons, List.map_nil, hs, hx, hr]
  exact hK _ _ (h v' w' h2 h3 h4)
end Go.Proofs.YtonndmljendcoaaDoor
