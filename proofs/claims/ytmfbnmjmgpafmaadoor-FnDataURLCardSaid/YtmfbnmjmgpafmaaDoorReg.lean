/- A region that draws its order, all of whose operations but the last few read no memory (they may call what leaves the world as it is): the last few, which follow one another, may make memory. The first ones are walked once, in the order of the text, whatever the order that is drawn. -/
import Derived.StillTailTactics
import Derived.Maps.AppendAt
namespace Go.Proofs.YtmfbnmjmgpafmaaDoor
section
variable {P : Program} {ops : Array Oper} {md : Region.Mode}
/-- The operation gives, in every world, the frame a'. -/
def Pure1 (P : Program) (ops : Array Oper) (o : Oper) (a a' : Act) : Prop := ∀ w : World,
  (Region.wanted o (yielded ops a.tmps) = true ∧ ((∃ v, (execOp a.eval o).run P w = .ok (.value v) w ∧ a.put o.dst v = a') ∨ ((execOp a.eval o).run P w = .ok .skip w ∧ a.put o.dst undef = a') ∨ ∃ v f args, (execOp a.eval o).run P w = .ok (.enter f args) w ∧ Calls P f args w (fun e w'' => e = .returned v ∧ w'' = w) ∧ a.put o.dst v = a')) ∨
  (Region.wanted o (yielded ops a.tmps) = false ∧ a.put o.dst undef = a')
theorem Pure1.put {o : Oper} {a a' : Act} (h : Pure1 P ops o a a') : ∃ v, a.put o.dst v = a' := by
  rcases h default with ⟨_, ⟨v, _, e⟩ | ⟨_, e⟩ | ⟨v, f, args, _, _, e⟩⟩ | ⟨_, e⟩ <;> exact ⟨_, e⟩
/-- An operation that gives a value, or none. -/
def plOp (P : Program) (ops : Array Oper) (j : Nat) (K : Act → World → Prop) (a : Act) (w : World) : Prop :=
  match ops[j]? with
  | none => K a w
  | some o => if Region.wanted o (yielded ops a.tmps) then
      (match (execOp a.eval o).run P w with
        | .ok (.value v) w' => K (a.put o.dst v) w'
        | .ok .skip w' => K (a.put o.dst undef) w'
        | .ok (.enter f args) w' => ∃ v, Calls P f args w' (fun e w'' => e = .returned v ∧ w'' = w') ∧ K (a.put o.dst v) w'
        | _ => False)
    else K (a.put o.dst undef) w
theorem plOp_mono {j : Nat} {K K' : Act → World → Prop} {a : Act} {w : World} (h : ∀ a w, K a w → K' a w) (hh : plOp P ops j K a w) : plOp P ops j K' a w := by
  unfold plOp at *
  split
  · rename_i hj; simp only [hj] at hh; exact h _ _ hh
  · rename_i o hj
    simp only [hj] at hh
    split
    · rename_i hw
      simp only [hw, if_true] at hh
      generalize (execOp a.eval o).run P w = r at *
      cases r with
      | ok n w' => cases n <;> simp only at hh ⊢ <;> first | exact h _ _ hh | exact hh | (obtain ⟨v, hc, hk⟩ := hh; exact ⟨v, hc, h _ _ hk⟩)
      | halt x w' => exact hh
    · rename_i hw
      simp only [hw] at hh
      exact h _ _ hh
theorem wpOp_of_plOp {Q' : Exit → Act → World → Prop} {j : Nat} {K K' : Act → World → Prop} {a : Act} {w : World} (h : ∀ a w, K a w → K' a w) (hh : plOp P ops j K a w) : wpOp P ops Q' j K' a w := by
  unfold plOp at hh
  unfold wpOp
  split
  · rename_i hj; simp only [hj] at hh; exact h _ _ hh
  · rename_i o hj
    simp only [hj] at hh
    split
    · rename_i hw
      simp only [hw, if_true] at hh
      left
      unfold Oper.wp
      generalize (execOp a.eval o).run P w = r at *
      cases r with
      | ok n w' => cases n <;> simp only [Oper.upon] at hh ⊢ <;> first | exact h _ _ hh | exact hh.elim | (obtain ⟨v, hc, hn⟩ := hh; exact hc.mono fun e w'' ⟨he, hw⟩ => by subst he; subst hw; exact h _ _ hn)
      | halt x w' => exact hh.elim
    · rename_i hw
      simp only [hw] at hh
      exact h _ _ hh
theorem plOp_of_pure {i : Nat} {o : Oper} {a a' : Act} {w : World} (hi : ops[i]? = some o) (hy : Pure1 P ops o a a') {K : Act → World → Prop} (h : K a' w) : plOp P ops i K a w := by
  unfold plOp
  simp only [hi]
  rcases hy w with ⟨hw, ⟨v, hv, rfl⟩ | ⟨hv, rfl⟩ | ⟨v, f, args, hv, hc, rfl⟩⟩ | ⟨hw, rfl⟩
  · simp only [hw, if_true, hv]; exact h
  · simp only [hw, if_true, hv]; exact h
  · simp only [hw, if_true, hv]; exact ⟨v, hc, h⟩
  · simp only [hw, Bool.false_eq_true, if_false]; exact h
def wpAnyP (P : Program) (md : Region.Mode) (ops : Array Oper) (Q : Act → World → Prop) : Nat → Array Bool → Act → World → Prop
  | 0, listed, a, w => Region.ready md ops listed = [] ∧ Q a w
  | f + 1, listed, a, w => (Region.ready md ops listed = [] → Q a w) ∧ ∀ i ∈ Region.ready md ops listed, plOp P ops i (wpAnyP P md ops Q f (listed.setIfInBounds i true)) a w
theorem wpAny_of_P {Q : Act → World → Prop} {Q' : Exit → Act → World → Prop} (hQ : ∀ a w, Q a w → Q' .normal a w) : ∀ (f : Nat) (listed : Array Bool) (a : Act) (w : World), wpAnyP P md ops Q f listed a w → wpAny P md ops Q' f listed a w
  | 0, _, _, _, h => ⟨h.1, hQ _ _ h.2⟩
  | f + 1, _, _, _, h => ⟨fun h0 => hQ _ _ (h.1 h0), fun i hi => wpOp_of_plOp (fun a' w' => wpAny_of_P hQ f _ a' w') (h.2 i hi)⟩
theorem plOp_put {j : Nat} {oi oj : Oper} {a a' : Act} {w : World} (hj : ops[j]? = some oj) (hap : oi.apart ops oj = true) (hsi : ∀ cs b, oi.op ≠ .select cs b) (hsj : ∀ cs b, oj.op ≠ .select cs b) {K : Act → World → Prop}
    (hy : Pure1 P ops oi a a') (h : plOp P ops j K a' w) : plOp P ops j (fun b w' => ∃ b', Pure1 P ops oi b b' ∧ K b' w') a w := by
  obtain ⟨h1, h2, h3⟩ := Oper.apart_spec hap
  have keep : ∀ u, Pure1 P ops oi (a.put oj.dst u) (a'.put oj.dst u) := fun u w2 => by
    rw [execOp_put oi hsi a oj.dst u h3, wanted_put oi a oj.dst u h3]
    rcases hy w2 with ⟨hw, ⟨v, hv, e⟩ | ⟨hv, e⟩ | ⟨v, f, args, hv, hc, e⟩⟩ | ⟨hw, e⟩
    · exact .inl ⟨hw, .inl ⟨v, hv, by rw [← e, Act.put_comm a v u h2]⟩⟩
    · exact .inl ⟨hw, .inr (.inl ⟨hv, by rw [← e, Act.put_comm a undef u h2]⟩)⟩
    · exact .inl ⟨hw, .inr (.inr ⟨v, f, args, hv, hc, by rw [← e, Act.put_comm a v u h2]⟩)⟩
    · exact .inr ⟨hw, by rw [← e, Act.put_comm a undef u h2]⟩
  obtain ⟨v, ev⟩ := hy.put
  unfold plOp at *
  simp only [hj] at *
  rw [← ev, wanted_put oj a oi.dst v h1] at h
  split
  · rename_i hw
    simp only [hw, if_true] at h
    rw [execOp_put oj hsj a oi.dst v h1, ev] at h
    generalize (execOp a.eval oj).run P w = r at *
    cases r with
    | ok n w' =>
      cases n <;> simp only at h ⊢
      case value u => exact ⟨_, keep u, h⟩
      case skip => exact ⟨_, keep _, h⟩
      case enter f args => obtain ⟨v, hc, hk⟩ := h; exact ⟨v, hc, _, keep v, hk⟩
    | halt x w' => exact h
  · rename_i hw
    simp only [hw] at h
    rw [ev] at h
    exact ⟨_, keep _, h⟩
theorem wpAnyP_first {Q : Act → World → Prop} {i : Nat} {oi : Oper} (hi : ops[i]? = some oi) (hsel : ∀ (j : Nat) (o : Oper) cs b, ops[j]? = some o → o.op ≠ .select cs b) :
    ∀ (fuel : Nat) (listed : Array Bool) (a a' : Act) (w : World),
      (∀ j oj, ops[j]? = some oj → j ≠ i → listed.getD j true = false → (∀ e ∈ oj.after, Region.binds md e = true → e.on ≠ i) → oi.apart ops oj = true) →
      i ∈ Region.ready md ops listed → Pure1 P ops oi a a' →
      wpAnyP P md ops Q fuel (listed.setIfInBounds i true) a' w → wpAnyP P md ops Q (fuel + 1) listed a w := by
  intro fuel
  induction fuel with
  | zero =>
    intro listed a a' w _ hr hy H
    refine ⟨fun h => (by rw [h] at hr; cases hr), fun j hj => ?_⟩
    by_cases hji : j = i
    · subst hji
      exact plOp_of_pure hi hy H
    · have := ready_mono hj hji
      rw [H.1] at this
      cases this
  | succ fuel ih =>
    intro listed a a' w hfree hr hy H
    refine ⟨fun h => (by rw [h] at hr; cases hr), fun j hj => ?_⟩
    by_cases hji : j = i
    · subst hji
      exact plOp_of_pure hi hy H
    · have h1 := H.2 j (ready_mono hj hji)
      obtain ⟨hjun, oj, hoj, hall⟩ := mem_ready.1 hj
      have hnot : ∀ e ∈ oj.after, Region.binds md e = true → e.on ≠ i := fun e he hb heq => by
        have h1 := hall e he hb
        have h0 := (mem_ready.1 hr).1
        rw [heq] at h1
        rcases Nat.lt_or_ge i listed.size with h' | h'
        · simp [h'] at h0 h1; rw [h0] at h1; cases h1
        · simp [Array.getElem?_eq_none h'] at h1
      have h2 := plOp_put hoj (hfree j oj hoj hji hjun hnot) (fun cs b => hsel i oi cs b hi) (fun cs b => hsel j oj cs b hoj) hy h1
      have hfree' : ∀ k ok, ops[k]? = some ok → k ≠ i → (listed.setIfInBounds j true).getD k true = false →
          (∀ e ∈ ok.after, Region.binds md e = true → e.on ≠ i) → oi.apart ops ok = true := fun k ok hk hki hun hno => by
        refine hfree k ok hk hki ?_ hno
        by_cases hjk : j = k
        · subst hjk; exact hjun
        · rw [getD_set_ne true hjk] at hun; exact hun
      refine plOp_mono (fun b w' ⟨b', h3, h5⟩ => ih (listed.setIfInBounds j true) b b' w' hfree' (ready_mono hr (Ne.symm hji)) h3 ?_) h2
      rw [Array.setIfInBounds_comm _ _ hji]
      exact h5
/-- The last few, one behind the other. -/
def plList (P : Program) (ops : Array Oper) (Q : Act → World → Prop) : List Oper → Act → World → Prop
  | [], a, w => Q a w
  | o :: rest, a, w => if Region.wanted o (yielded ops a.tmps) then
      (match (execOp a.eval o).run P w with
        | .ok (.value v) w' => plList P ops Q rest (a.put o.dst v) w'
        | .ok .skip w' => plList P ops Q rest (a.put o.dst undef) w'
        | .ok (.enter f args) w' => ∃ v, Calls P f args w' (fun e w'' => e = .returned v ∧ w'' = w') ∧ plList P ops Q rest (a.put o.dst v) w'
        | _ => False)
    else plList P ops Q rest (a.put o.dst undef) w
theorem wpAnyP_of_seq {Q : Act → World → Prop} : ∀ (l : List Oper) (k : Nat) (listed : Array Bool) (a : Act) (w : World), (∀ j, l[j]? = ops[k + j]?) →
    Region.seqB md ops l.length k listed = true → plList P ops Q l a w → wpAnyP P md ops Q l.length listed a w
  | [], _, _, _, _, _, hB, h => ⟨by simpa [Region.seqB] using hB, h⟩
  | o :: l, k, listed, a, w, hl, hB, h => by
    have h0 : ops[k]? = some o := by simpa using (hl 0).symm
    simp only [List.length_cons, Region.seqB, Bool.and_eq_true, decide_eq_true_eq] at hB
    refine ⟨fun h1 => (by rw [hB.1] at h1; cases h1), fun i hi => ?_⟩
    rw [hB.1] at hi
    have hik : i = k := by simpa using hi
    subst hik
    have hw : plOp P ops i (plList P ops Q l) a w := by unfold plOp; simp only [h0]; exact h
    exact plOp_mono (fun a' w' h' => wpAnyP_of_seq l (i + 1) _ a' w' (fun j => by have := hl (j + 1); simpa [Nat.add_assoc, Nat.add_comm 1 j] using this) hB.2 h') hw
/-- The first ones, in the order of the text. -/
def wpPure (P : Program) (ops : Array Oper) (Q : Act → Prop) : List Oper → Act → Prop
  | [], a => Q a
  | o :: rest, a => ∃ a', Pure1 P ops o a a' ∧ wpPure P ops Q rest a'
theorem wpAnyP_lex {g : Nat} {Q : Act → World → Prop} {w : World} {L : Act → Prop} (hsel : Region.noSelect ops = true) {n : Nat} (hL : ∀ listed a, Region.seqB md ops g n listed = true → L a → wpAnyP P md ops Q g listed a w) :
    ∀ (l : List Oper) (k : Nat) (listed : Array Bool) (a : Act), (∀ j, j < l.length → l[j]? = ops[k + j]?) → k + l.length = n → Region.lexHead md ops g l.length k listed = true → wpPure P ops L l a → wpAnyP P md ops Q (l.length + g) listed a w
  | [], k, listed, a, _, hk, hB, h => by
    have : k = n := by simpa using hk
    subst this
    rw [List.length_nil, Nat.zero_add]
    exact hL _ _ (by simpa [Region.lexHead] using hB) h
  | o :: l, k, listed, a, hl, hk, hB, h => by
    have h0 : ops[k]? = some o := by simpa using (hl 0 (by simp)).symm
    simp only [List.length_cons, Region.lexHead, Bool.and_eq_true] at hB
    obtain ⟨⟨hr, hf⟩, hB'⟩ := hB
    obtain ⟨a', h1, h3⟩ := h
    rw [List.length_cons, show l.length + 1 + g = (l.length + g) + 1 by omega]
    exact wpAnyP_first h0 (Region.noSelect_spec hsel) (l.length + g) listed a a' w (Region.free_spec h0 hf) (by simpa using hr) h1
      (wpAnyP_lex hsel hL l (k + 1) _ _ (fun j hj => by have := hl (j + 1) (by simp; omega); simpa [Nat.add_assoc, Nat.add_comm 1 j] using this) (by simp only [List.length_cons] at hk; omega) hB' h3)
def lexPureB (md : Region.Mode) (ops : Array Oper) (n : Nat) : Bool := Region.noSelect ops && decide (n ≤ ops.size) && Region.lexHead md ops (ops.size - n) n 0 (Array.replicate ops.size false)
/-- THE LAW. -/
theorem wp_region_pure {id : Nat} {Q : Exit → Act → World → Prop} {a : Act} {w : World} {l : List Oper} (n : Nat) (hm : P.follows .mixedOrders = true) (hB : lexPureB .any l.toArray n = true)
    (h : wpPure P l.toArray (fun a' => plList P l.toArray (Q .normal) (l.drop n) a' w.drew) (l.take n) a) : (Code.region id l.toArray true).wp P Q a w := by
  simp only [lexPureB, Bool.and_eq_true, decide_eq_true_eq] at hB
  obtain ⟨⟨hsel, hn⟩, hlex⟩ := hB
  have hn' : n ≤ l.length := by simpa using hn
  have htl : (l.take n).length = n := by simp; omega
  have hdl : (l.drop n).length = l.toArray.size - n := by simp
  refine wp_region_any hm (wpAny_of_P (Q := Q .normal) (fun _ _ h => h) _ _ _ _ ?_)
  have H := wpAnyP_lex (md := .any) (Q := Q .normal) (w := w.drew) (g := l.toArray.size - n) (n := n) hsel (fun listed a' hs hL => by
    have := wpAnyP_of_seq (md := .any) (l.drop n) n listed a' w.drew (fun j => by simp [List.getElem?_drop]) (by rw [hdl]; exact hs) hL
    rwa [hdl] at this) (l.take n) 0 (Array.replicate l.toArray.size false) a (fun j hj => by
      have hj' : j < n := by rw [htl] at hj; exact hj
      simp [hj']) (by rw [htl]; omega) (by rw [htl]; exact hlex) h
  rw [htl, show n + (l.toArray.size - n) = l.toArray.size by omega] at H
  exact H
/-- An operation's run, for the walk. -/
def plStep (P : Program) (ops : Array Oper) (o : Oper) (a : Act) (w : World) (K : Act → World → Prop) : Prop :=
  if Region.wanted o (yielded ops a.tmps) then (match (execOp a.eval o).run P w with
        | .ok (.value v) w' => K (a.put o.dst v) w'
        | .ok .skip w' => K (a.put o.dst undef) w'
        | .ok (.enter f args) w' => ∃ v, Calls P f args w' (fun e w'' => e = .returned v ∧ w'' = w') ∧ K (a.put o.dst v) w'
        | _ => False)
    else K (a.put o.dst undef) w
theorem pure1_of {o : Oper} {a a' : Act} (h : ∀ (w : World) (K : Act → World → Prop), K a' w → plStep P ops o a w K) : Pure1 P ops o a a' := fun w => by
  have h0 := h w (fun b w' => b = a' ∧ w' = w) ⟨rfl, rfl⟩
  unfold plStep at h0
  split at h0
  · rename_i hw
    left
    refine ⟨hw, ?_⟩
    generalize (execOp a.eval o).run P w = r at *
    cases r with
    | ok n w' =>
      cases n <;> simp only at h0
      case value u => obtain ⟨e, rfl⟩ := h0; exact .inl ⟨u, rfl, e⟩
      case skip => obtain ⟨e, rfl⟩ := h0; exact .inr (.inl ⟨rfl, e⟩)
      case enter f args => obtain ⟨v, hc, e, rfl⟩ := h0; exact .inr (.inr ⟨v, f, args, rfl, hc, e⟩)
    | halt x w' => exact h0.elim
  · rename_i hw
    exact .inr ⟨by simpa using hw, h0.1⟩
/-- One step of the first ones. -/
theorem wpPure_step {o : Oper} {rest : List Oper} {a a' : Act} {Q : Act → Prop} (h : ∀ (w : World) (K : Act → World → Prop), K a' w → plStep P ops o a w K) (h2 : wpPure P ops Q rest a') : wpPure P ops Q (o :: rest) a := ⟨a', pure1_of h, h2⟩
/-- One step of the last ones. -/
theorem plList_step {o : Oper} {rest : List Oper} {a : Act} {w : World} {Q : Act → World → Prop} (h : ∀ K : Act → World → Prop, (∀ a w, plList P ops Q rest a w → K a w) → plStep P ops o a w K) : plList P ops Q (o :: rest) a w :=
  h _ fun _ _ h => h
theorem plList_nil {a : Act} {w : World} {Q : Act → World → Prop} (h : Q a w) : plList P ops Q [] a w := h
/-- A run that is known. -/
theorem plStep_run {o : Oper} {a : Act} {w w' : World} {v : Value} {K : Act → World → Prop} (hg : o.guard = none) (hr : (execOp a.eval o).run P w = .ok (.value v) w') (h : K (a.put o.dst v) w') : plStep P ops o a w K := by
  unfold plStep
  rw [if_pos (by simp [Region.wanted, hg]), hr]
  exact h
theorem plStep_append {o : Oper} {a : Act} {w : World} {K : Act → World → Prop} (hgd : o.guard = none) (s x : Operand) (t : TypeId)
    (ho : o.op = .call { callee := .builtin .append, args := #[s, x], argTypes := #[t, t] })
    (base : Nat) (e : TypeId) (i : TypeInfo) (z : Value) (size bytes : Nat) (ht : P.underlying t = some (.slice e)) (hi : P.info? e = some i) (hz : i.zero = some z)
    (hsize : i.size = size) (hby : i.bytes = bytes) (hzs : z.cells.size = size) (hsz : 0 < size)
    (v : Value) (n : Nat) (xs : List Value) (hs : a.eval s = v) (hown : w.ownsRow base e size v n xs)
    (ad : Addr) (m c : Nat) (news : List Value) (hx : a.eval x = .slice (some ad) m c) (hl : news.length = m * size) (hnews : ∀ j u, news[j]? = some u → w.cell? (ad.add j) = some u) (h1 : ∀ u ∈ news, u.oneCell' = true)
    (h63 : n + m ≤ maxLen) (hbytes : (n + m) * bytes ≤ 140737488355328) (hbase : base ≤ w.heap.size)
    (h : ∀ v' w', w'.ownsRow base e size v' (n + m) (xs ++ news) → w.grownBy w' v.ownBlock → K (a.put o.dst v') w') : plStep P ops o a w K := by
  obtain ⟨v', w', hr, h2, h3, _, _⟩ := run_append_own_at (P := P) w base t o.type e i z size bytes ht hi hz hsize hby hzs hsz v n xs hown ad m c news hl hnews h1 h63 hbytes hbase
  refine plStep_run hgd ?_ (h v' w' h2 h3)
  unfold execOp
  simp only [ho, resolve, invoke, builtin, Sem.run_bind, Sem.run_pure, Result.andThen_ok, List.map_toArray, List.map_cons, List.map_nil, hs, hx, hr]
end
end Go.Proofs.YtmfbnmjmgpafmaaDoor
