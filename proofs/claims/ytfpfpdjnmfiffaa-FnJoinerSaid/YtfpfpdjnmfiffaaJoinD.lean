/- What (*helpers.Joiner).Done tells: the wanted text, if each piece lies in it and they cover it. -/
import Derived.Test.YtfpfpdjnmfiffaaJoinB
import Derived.Laws.CopyOwn
import Derived.Lib.BufferWrite
import Derived.StillTailTactics
import Derived.Laws.OwnMore
namespace Go.Proofs.Ytfpfpdjnmfiffaa
open Go.RowKit
set_option linter.unusedVariables false
set_option linter.unusedSimpArgs false

theorem wpList_copy_text {P : Program} {w : World} {ops : Array Oper} {rest : List Oper} {o : Oper} {a : Act} {Q : Exit → Act → World → Prop} (hgd : o.guard = none) (d s : Operand) (dT sT : TypeId)
    (ho : o.op = .call { callee := .builtin .copy, args := #[d, s], argTypes := #[dT, sT] }) (elem : TypeId) (hu : P.underlying dT = some (.slice elem)) (hsz : (P.info? elem).map (·.size) = some 1)
    (dp : Option Addr) (dLen dCap : Nat) (t : ByteArray) (hd : a.eval d = .slice dp dLen dCap) (hs : a.eval s = .string t)
    (g off : Nat) (cur : List Value) (ty : TypeId) (hg : w.heap[g]? = some (.cells cur.toArray ty (0, 0))) (hle : t.size ≤ dLen)
    (hpos : 0 < t.size → dp = some ⟨g, off, none⟩) (hfit : off + t.size ≤ cur.length) (B : Nat) (w0 : World) (hb : Below B w0 w) (hBg : B ≤ g)
    (h : ∀ w', Hid (w'.heap[g]? = some (.cells (splice cur off (Lib.byteCells t.data.toList)).toArray ty (0, 0))) → Below B w0 w' → wpList P ops Q rest (a.put o.dst (goInt t.size)) w') :
    wpList P ops Q (o :: rest) a w := by
  by_cases h0 : 0 < t.size
  · obtain rfl := hpos h0
    refine wpList_plain hgd fun K hK => ?_
    have hrun := Lib.run_copy_row_string (P := P) w dT sT o.type elem g off dLen dCap t cur.toArray ty hu hsz hg hle (by simpa using hfit)
    unfold Oper.wp
    simp [execOp, ho, resolve, invoke, builtin, hd, hs, hrun, Result.andThen]
    refine hK _ _ (h _ ?_ (below_setRow hb hBg _))
    show _ = _
    have hl : (Lib.byteCells t.data.toList).length = t.size := by rw [Lib.byteCells_length]; simp
    have := setRow_heap w g _ (cur.take off ++ Lib.byteCells t.data.toList ++ cur.drop (off + t.size)).toArray ty _ hg
    simpa [splice, hl] using this
  · have hz : t.size = 0 := by omega
    refine wpList_plain hgd fun K hK => ?_
    have hrun := Lib.run_copy_empty_string (P := P) w dT sT o.type elem dp dLen dCap t hu (by rw [hsz]; rfl) hz
    unfold Oper.wp
    simp [execOp, ho, resolve, invoke, builtin, hd, hs, hrun, Result.andThen]
    have hn : t.data.toList = [] := List.eq_nil_of_length_eq_zero (by simpa using hz)
    have := h w (show _ = _ by rw [hn]; simpa [splice, Lib.byteCells] using hg) hb
    rw [hz] at this
    exact hK _ _ this

theorem splice_cells (L : List UInt8) (off : Nat) (cs : List UInt8) : splice (Lib.byteCells L) off (Lib.byteCells cs) = Lib.byteCells (splice L off cs) := by
  simp [splice, Lib.byteCells, List.map_take, List.map_drop]
theorem splice_at {α : Type} (L : List α) (off : Nat) (cs : List α) (h : off + cs.length ≤ L.length) (j : Nat) : (splice L off cs)[j]? = if off ≤ j ∧ j < off + cs.length then cs[j - off]? else L[j]? := by
  unfold splice
  have ht : (L.take off).length = off := by simp; omega
  by_cases h1 : j < off
  · rw [if_neg (by omega), List.getElem?_append_left (by omega), List.getElem?_take, if_pos h1]
  · rw [List.getElem?_append_right (by omega), ht]
    by_cases h2 : j < off + cs.length
    · rw [if_pos ⟨by omega, h2⟩, List.getElem?_append_left (by omega)]
    · rw [if_neg (by omega), List.getElem?_append_right (by omega), List.getElem?_drop]
      congr 1
      omega
/-- The text lies in the wanted one from its place on. -/
def InAt (want : List UInt8) (s : ByteArray) (off : Nat) : Prop := off + s.size ≤ want.length ∧ ∀ m, m < s.size → want[off + m]? = s.data.toList[m]?
def Agrees (want buf : List UInt8) (cov : Nat → Prop) : Prop := buf.length = want.length ∧ ∀ j, cov j → buf[j]? = want[j]?
theorem Agrees.step {want buf : List UInt8} {cov cov' : Nat → Prop} (h : Agrees want buf cov) {s : ByteArray} {off : Nat} (hs : InAt want s off) (hc : ∀ j, cov' j → cov j ∨ (off ≤ j ∧ j < off + s.size)) : Agrees want (splice buf off s.data.toList) cov' := by
  have hl : s.data.toList.length = s.size := by simp
  refine ⟨?_, fun j hj => ?_⟩
  · rw [length_splice _ _ _ (by rw [hl, h.1]; exact hs.1)]; exact h.1
  · rw [splice_at _ _ _ (by rw [hl, h.1]; exact hs.1), hl]
    by_cases h1 : off ≤ j ∧ j < off + s.size
    · rw [if_pos h1, ← hs.2 (j - off) (by omega)]
      congr 1
      omega
    · rw [if_neg h1]
      rcases hc j hj with h2 | h2
      · exact h.2 j h2
      · exact absurd h2 h1
theorem Agrees.whole {want buf : List UInt8} {cov : Nat → Prop} (h : Agrees want buf cov) (hc : ∀ j, j < want.length → cov j) : buf = want := by
  refine List.ext_getElem? fun j => ?_
  by_cases hj : j < want.length
  · exact h.2 j (hc j hj)
  · rw [List.getElem?_eq_none (by rw [h.1]; omega), List.getElem?_eq_none (by omega)]

theorem own_any {w : World} {B E sz n : Nat} {v : Value} {cs : List Value} (h : w.ownsRow B E sz v n cs) : ∃ a c, v = .slice a n c ∧ (0 < n → ∃ g, a = some ⟨g, 0, none⟩ ∧ g < w.heap.size) := by
  rcases h.2 with ⟨rfl, h0⟩ | ⟨g, cap, cur, rfl, hg, hc, _⟩
  · exact ⟨none, 0, by rw [h0], fun h => by omega⟩
  · exact ⟨_, cap, rfl, fun _ => ⟨g, rfl, (Array.getElem?_eq_some_iff.1 hc).1⟩⟩
theorem scs_at : ∀ (l : List (ByteArray × Nat)) (k : Nat) (hk : k < l.length), (scs l)[k * 2]? = some (.string l[k].1) ∧ (scs l)[k * 2 + 1]? = some (.int .u32 (l[k].2 : Int))
  | [], k, h => by simp at h
  | x :: r, 0, _ => by simp [scs]
  | x :: r, k + 1, h => by
    have ih := scs_at r k (by simpa using h)
    have e1 : scs (x :: r) = .string x.1 :: .int .u32 (x.2 : Int) :: scs r := rfl
    rw [e1, show (k + 1) * 2 = k * 2 + 1 + 1 by omega]
    simpa using ih
theorem bcs_at : ∀ (l : List Piece) (k : Nat) (hk : k < l.length), (bcs l)[k * 2]? = some (.slice (some ⟨l[k].g, 0, none⟩) l[k].s.size l[k].c) ∧ (bcs l)[k * 2 + 1]? = some (.int .u32 (l[k].off : Int))
  | [], k, h => by simp at h
  | x :: r, 0, _ => by simp [bcs]
  | x :: r, k + 1, h => by
    have ih := bcs_at r k (by simpa using h)
    have e1 : bcs (x :: r) = .slice (some ⟨x.g, 0, none⟩) x.s.size x.c :: .int .u32 (x.off : Int) :: bcs r := rfl
    rw [e1, show (k + 1) * 2 = k * 2 + 1 + 1 by omega]
    simpa using ih
theorem own_cell {w : World} {B E sz g n cap : Nat} {xs : List Value} (h : w.ownsRow B E sz (.slice (some ⟨g, 0, none⟩) n cap) n xs) {j : Nat} {u : Value} (hj : xs[j]? = some u) : w.cell? ⟨g, j, none⟩ = some u := by
  have := h.cells (g := g) rfl j u hj
  have e : (⟨g, 0, none⟩ : Addr).add j = ⟨g, j, none⟩ := by unfold Addr.add; split <;> simp_all
  rwa [e] at this
def covS (S : List (ByteArray × Nat)) (k : Nat) (j : Nat) : Prop := ∃ i, i < k ∧ ∃ hi : i < S.length, (S[i]).2 ≤ j ∧ j < (S[i]).2 + (S[i]).1.size
def covB (Bs : List Piece) (k : Nat) (j : Nat) : Prop := ∃ i, i < k ∧ ∃ hi : i < Bs.length, (Bs[i]).off ≤ j ∧ j < (Bs[i]).off + (Bs[i]).s.size
theorem infoU8 : (Try.prog.info? 5).map (fun i => (i.zero, i.size, i.bytes)) = some (some (.int .u8 0), 1, 1) := by kernel_rfl
theorem sizeU8 : (Try.prog.info? 5).map (·.size) = some 1 := by kernel_rfl

theorem obj_new {w : World} {B : Nat} {o o' : Obj} (h : w.heap[B]? = some o) : (w.alloc o').heap[B]? = some o := by
  have hl := (Array.getElem?_eq_some_iff.1 h).1
  show (w.heap.push o')[B]? = _
  rw [Array.getElem?_push, if_neg (Nat.ne_of_lt hl)]
  exact h
theorem made_buf {w : World} {B g t : Nat} (h : w.ownsRow B 5 1 (.slice (some ⟨g, 0, none⟩) t t) t (madeCells #[.int .u8 0] t).toList) : w.heap[g]? = some (.cells (Lib.byteCells (List.replicate t 0)).toArray 5 (0, 0)) := by
  rcases h.2 with ⟨he, _⟩ | ⟨g', cap, cur, he, _, hc, _, _, hsz, htk⟩
  · cases he
  · injection he with he _ he2
    injection he with he
    injection he with he _ _
    subst he he2
    rw [hc]
    have e : cur = (Lib.byteCells (List.replicate t 0)).toArray := by
      apply Array.toList_inj.1
      rw [List.take_of_length_le (by simp; omega)] at htk
      rw [htk, toList_madeCells_one]
      simp [Lib.byteCells]
    rw [e]
set_option maxRecDepth 100000 in
set_option maxHeartbeats 4000000 in
theorem done_any {B : Nat} {S : List (ByteArray × Nat)} {Bs : List Piece} {last : Int} {w : World} (want : List UInt8) (h : J B S Bs want.length last w) (hB : B ≤ w.heap.size) (hz : want.length ≤ 20000) (hn : S.length ≤ 1000) (hm : Bs.length ≤ 1000)
    (hS : ∀ x ∈ S, InAt want x.1 x.2) (hBs : ∀ x ∈ Bs, InAt want x.s x.off) (hc : ∀ j, j < want.length → covS S S.length j ∨ covB Bs Bs.length j) (hfast : S = [] → Bs = []) :
    Calls Try.prog 24 #[.pointer (some ⟨B, 0, none⟩)] w fun e w' => ∃ g, e = .returned (.slice (some ⟨g, 0, none⟩) want.length want.length) ∧ w'.heap[g]? = some (.cells (Lib.byteCells want).toArray 5 (0, 0)) ∧ Below w.heap.size w w' := by
  obtain ⟨i0, hi, hz0, hz1, hz2⟩ := info_parts infoU8
  obtain ⟨vs, vb, hJ, hoS, hoB, hP⟩ := h
  obtain ⟨a1, c1, rfl, ha1⟩ := own_any hoS
  obtain ⟨a2, c2, rfl, ha2⟩ := own_any hoB
  obtain ⟨n, hnE⟩ : ∃ n, n = S.length := ⟨_, rfl⟩
  obtain ⟨m, hmE⟩ : ∃ m, m = Bs.length := ⟨_, rfl⟩
  obtain ⟨t, htE⟩ : ∃ t, t = want.length := ⟨_, rfl⟩
  have hfast' : n = 0 → m = 0 := fun h => by rw [hmE, hfast (List.eq_nil_of_length_eq_zero (by omega))]; rfl
  rw [← hnE] at hoS hn ha1 hc
  rw [← hmE] at hoB hm ha2 hc
  rw [← htE] at hz hc
  rw [← hnE, ← hmE, ← htE] at hJ
  rw [← htE]
  have k0 := hJ.c0
  have k1 := hJ.c1
  have k2 := hJ.c2
  have hBl := hJ.lt
  have HJ := Lib.hid hJ
  have HoS := Lib.hid hoS
  have HoB := Lib.hid hoB
  have HP := Lib.hid hP
  have HS := Lib.hid hS
  have HBs := Lib.hid hBs
  have HC := Lib.hid hc
  have HN := Lib.hid hnE
  have HM := Lib.hid hmE
  have HT := Lib.hid htE
  have HF := Lib.hid hfast'
  have HA1 := Lib.hid ha1
  have HA2 := Lib.hid ha2
  clear hJ hoS hoB hP hS hBs hc hnE hmE htE hfast hfast' ha1 ha2
  by_cases hn0 : n = 0
  · have hm0 := HF.out hn0
    have t1 : ((n : Int) == 0) = true := by simp; omega
    have t2 : ((m : Int) == 1) = false := by simp; omega
    go_enter Try.func24, Try.ntmps24
    go_wp2_with (refine wpList_make_full _ rfl _ _ 37 rfl w.heap.size 5 i0 (.int .u8 0) 1 Try.underlying37 hi hz0 hz1 .u32 .u32 _ _ t rfl rfl rfl rfl (by rw [hz2]; omega) (by unfold maxLen; omega) (Nat.le_refl _) ?_)
    intro w1 hown1 hg1
    have hb1 : Below w.heap.size w w1 := (Below.refl _ w).grown hg1 (Nat.le_refl _) (fun k hk => by cases hk)
    have hbuf := made_buf hown1
    clear hown1 hg1
    have e0 := (hb1.cell (p := ⟨B, 0, none⟩) hBl).trans k0
    go_wp2
    have H0 : Hid (Agrees want (List.replicate t 0) (covS S 0)) := ⟨by rw [List.length_replicate, HT.out], fun j ⟨i, h, _⟩ => absurd h (Nat.not_lt_zero _)⟩
    go_loopw [49] (fun i wr => ∃ (k : Nat) (buf : List UInt8), k ≤ n ∧ i = .int .i64 k ∧ Hid (wr.heap[w.heap.size]? = some (.cells (Lib.byteCells buf).toArray 5 (0, 0))) ∧ Hid (Agrees want buf (covS S k)) ∧ Below w.heap.size w wr) (fun i _ => n - (intOf i).toNat)
    case atStart => exact ⟨0, _, Nat.zero_le _, rfl, hbuf, H0, hb1⟩
    case round =>
      obtain ⟨k, buf, hk, rfl, HB, HG, hb⟩ := hrel
      by_cases hkn : k < n
      · exact absurd hkn (by omega)
      · obtain rfl : k = n := by omega
        clear H0 hbuf hb1 e0 t1
        have e1 := (hb.cell (p := ⟨B, 1, none⟩) hBl).trans k1
        go_wp2
        have H1 : Hid (Agrees want buf (fun j => covS S k j ∨ covB Bs 0 j)) := ⟨HG.out.1, fun j h => HG.out.2 j (h.elim id (fun ⟨i, h, _⟩ => absurd h (Nat.not_lt_zero _)))⟩
        go_loopw [66] (fun i wr => ∃ (q : Nat) (buf : List UInt8), q ≤ m ∧ i = .int .i64 q ∧ Hid (wr.heap[w.heap.size]? = some (.cells (Lib.byteCells buf).toArray 5 (0, 0))) ∧ Hid (Agrees want buf (fun j => covS S k j ∨ covB Bs q j)) ∧ Below w.heap.size w wr) (fun i _ => m - (intOf i).toNat)
        case atStart => exact ⟨0, _, Nat.zero_le _, rfl, HB, H1, hb⟩
        case round =>
          clear H1 HB HG hb e1
          obtain ⟨q, buf, hq, rfl, HB, HG, hb⟩ := hrel
          by_cases hqm : q < m
          · exact absurd hqm (by omega)
          · obtain rfl : q = m := by omega
            have hw := HG.out.whole (fun j hj => HC.out j (by rw [HT.out]; exact hj))
            have HW := Lib.hid hw
            clear hw
            go_wp2
            go_ret
            exact ⟨w.heap.size, rfl, by have h := HB.out; rw [HW.out] at h; exact h, hb⟩
  · have t1 : ((n : Int) == 0) = false := by simp; omega
    go_enter Try.func24, Try.ntmps24
    go_wp2_with (refine wpList_make_full _ rfl _ _ 37 rfl w.heap.size 5 i0 (.int .u8 0) 1 Try.underlying37 hi hz0 hz1 .u32 .u32 _ _ t rfl rfl rfl rfl (by rw [hz2]; omega) (by unfold maxLen; omega) (Nat.le_refl _) ?_)
    intro w1 hown1 hg1
    have hb1 : Below w.heap.size w w1 := (Below.refl _ w).grown hg1 (Nat.le_refl _) (fun k hk => by cases hk)
    have hbuf := made_buf hown1
    clear hown1 hg1
    have e0 := (hb1.cell (p := ⟨B, 0, none⟩) hBl).trans k0
    go_wp2
    have H0 : Hid (Agrees want (List.replicate t 0) (covS S 0)) := ⟨by rw [List.length_replicate, HT.out], fun j ⟨i, h, _⟩ => absurd h (Nat.not_lt_zero _)⟩
    go_loopw [49] (fun i wr => ∃ (k : Nat) (buf : List UInt8), k ≤ n ∧ i = .int .i64 k ∧ Hid (wr.heap[w.heap.size]? = some (.cells (Lib.byteCells buf).toArray 5 (0, 0))) ∧ Hid (Agrees want buf (covS S k)) ∧ Below w.heap.size w wr) (fun i _ => n - (intOf i).toNat)
    case atStart => exact ⟨0, _, Nat.zero_le _, rfl, hbuf, H0, hb1⟩
    case round =>
      obtain ⟨k, buf, hk, rfl, HB, HG, hb⟩ := hrel
      by_cases hkn : k < n
      · have hks : k < S.length := by rw [← HN.out]; exact hkn
        obtain ⟨g1, rfl, hg1⟩ := HA1.out (by omega)
        obtain ⟨q1, q2⟩ := scs_at S k hks
        have d1 := (hb.cell (p := ⟨g1, k * 2, none⟩) hg1).trans (own_cell HoS.out q1)
        have d2 := (hb.cell (p := ⟨g1, k * 2 + 1, none⟩) hg1).trans (own_cell HoS.out q2)
        have hin := HS.out (S[k]) (List.getElem_mem _)
        obtain ⟨s, hs⟩ : ∃ s, s = S[k].1 := ⟨_, rfl⟩
        obtain ⟨off, ho⟩ : ∃ off, off = S[k].2 := ⟨_, rfl⟩
        rw [← hs] at d1 hin
        rw [← ho] at d2 hin
        have hle := hin.1
        rw [← HT.out] at hle
        have HG2 := Lib.hid (HG.out.step (cov' := covS S (k + 1)) hin (fun j ⟨i, hi, hil, hh⟩ => by
          rcases Nat.lt_or_ge i k with h2 | h2
          · exact .inl ⟨i, h2, hil, hh⟩
          · obtain rfl : i = k := by omega
            right
            rw [hs, ho]
            exact hh))
        have hbl : buf.length = t := by rw [HG.out.1, HT.out]
        have HBL := Lib.hid hbl
        clear q1 q2 hs ho hin hks hbl
        clear H0 hbuf hb1 e0 t1
        go_wp2_with fail
        have hbW := hb.alloc hb.size (.cells #[.string s, .int .u32 (off : Int)] 80)
        have HBW := Lib.hid (obj_new (o' := .cells #[.string s, .int .u32 (off : Int)] 80) HB.out)
        have x1 : (wr.alloc (.cells #[.string s, .int .u32 (off : Int)] 80)).cell? ⟨wr.heap.size, 0, none⟩ = some (.string s) := by rw [Lib.cell_of_heap (heap_alloc_new wr _)]; rfl
        have x2 : (wr.alloc (.cells #[.string s, .int .u32 (off : Int)] 80)).cell? ⟨wr.heap.size, 1, none⟩ = some (.int .u32 (off : Int)) := by rw [Lib.cell_of_heap (heap_alloc_new wr _)]; rfl
        generalize wr.alloc (.cells #[.string s, .int .u32 (off : Int)] 80) = W at hbW HBW x1 x2 ⊢
        have i1 : (0 : Int) ≤ (off : Int) := Int.natCast_nonneg _
        have i2 : (off : Int) ≤ (t : Int) := by omega
        go_still_tail 6, (by kernel_rfl)
        change wpList _ _ _ _ _ W.drew
        refine wpList_copy_text (by rfl) _ _ _ _ (by rfl) 5 Try.underlying37 sizeU8 _ _ _ s (by rfl) (by rfl) w.heap.size off (Lib.byteCells buf) 5 HBW.out (by omega) (fun h => by rw [if_neg (by omega)]) (by rw [Lib.byteCells_length, HBL.out]; exact hle) w.heap.size w (hbW.trans ⟨rfl, rfl, rfl, Nat.le_refl _, fun _ _ => rfl⟩) (Nat.le_refl _) ?_
        intro w2 HB2 hb2
        have HB3 : Hid (w2.heap[w.heap.size]? = some (.cells (Lib.byteCells (splice buf off s.data.toList)).toArray 5 (0, 0))) := by have h := HB2.out; rw [splice_cells] at h; exact h
        clear HB2 hbW HBW x1 x2 HB HG
        obtain ⟨buf2, hb3⟩ : ∃ b, b = splice buf off s.data.toList := ⟨_, rfl⟩
        rw [← hb3] at HB3 HG2
        clear hb3
        go_wp2
        go_roundw
        case rel => exact ⟨k + 1, buf2, by omega, by simp, HB3, HG2, hb2⟩
        case measure => simp [intOf]; omega
      · obtain rfl : k = n := by omega
        clear H0 hbuf hb1 e0 t1
        have e1 := (hb.cell (p := ⟨B, 1, none⟩) hBl).trans k1
        go_wp2
        have H1 : Hid (Agrees want buf (fun j => covS S k j ∨ covB Bs 0 j)) := ⟨HG.out.1, fun j h => HG.out.2 j (h.elim id (fun ⟨i, h, _⟩ => absurd h (Nat.not_lt_zero _)))⟩
        go_loopw [66] (fun i wr => ∃ (q : Nat) (buf : List UInt8), q ≤ m ∧ i = .int .i64 q ∧ Hid (wr.heap[w.heap.size]? = some (.cells (Lib.byteCells buf).toArray 5 (0, 0))) ∧ Hid (Agrees want buf (fun j => covS S k j ∨ covB Bs q j)) ∧ Below w.heap.size w wr) (fun i _ => m - (intOf i).toNat)
        case atStart => exact ⟨0, _, Nat.zero_le _, rfl, HB, H1, hb⟩
        case round =>
          clear H1 HB HG hb e1
          obtain ⟨q, buf, hq, rfl, HB, HG, hb⟩ := hrel
          by_cases hqm : q < m
          · have hks : q < Bs.length := by rw [← HM.out]; exact hqm
            obtain ⟨g2, rfl, hg2⟩ := HA2.out (by omega)
            obtain ⟨q1, q2⟩ := bcs_at Bs q hks
            have d1 := (hb.cell (p := ⟨g2, q * 2, none⟩) hg2).trans (own_cell HoB.out q1)
            have d2 := (hb.cell (p := ⟨g2, q * 2 + 1, none⟩) hg2).trans (own_cell HoB.out q2)
            have hin := HBs.out (Bs[q]) (List.getElem_mem _)
            obtain ⟨s, hs⟩ : ∃ s, s = Bs[q].s := ⟨_, rfl⟩
            obtain ⟨off, ho⟩ : ∃ off, off = Bs[q].off := ⟨_, rfl⟩
            have hblk := (HP.out (Bs[q]) (List.getElem_mem _)).2
            obtain ⟨pg, hpg⟩ : ∃ pg, pg = Bs[q].g := ⟨_, rfl⟩
            obtain ⟨pc, hpc⟩ : ∃ pc, pc = Bs[q].c := ⟨_, rfl⟩
            rw [← hs, ← hpg, ← hpc] at d1
            rw [← hs, ← hpg] at hblk
            rw [← hs] at hin
            clear hpg hpc
            rw [← ho] at d2 hin
            have hle := hin.1
            rw [← HT.out] at hle
            have HG2 := Lib.hid (HG.out.step (cov' := fun j => covS S k j ∨ covB Bs (q + 1) j) hin (fun j h => by
              rcases h with h | ⟨i, hi, hil, hh⟩
              · exact .inl (.inl h)
              · rcases Nat.lt_or_ge i q with h2 | h2
                · exact .inl (.inr ⟨i, h2, hil, hh⟩)
                · obtain rfl : i = q := by omega
                  right
                  rw [hs, ho]
                  exact hh))
            have hbl : buf.length = t := by rw [HG.out.1, HT.out]
            have HBL := Lib.hid hbl
            clear q1 q2 hs ho hin hks hbl
            have HBK := Lib.hid hblk
            clear hblk
            go_wp2_with fail
            have hbW := hb.alloc hb.size (.cells #[.slice (some ⟨pg, 0, none⟩) s.size pc, .int .u32 (off : Int)] 82)
            have HBW := Lib.hid (obj_new (o' := .cells #[.slice (some ⟨pg, 0, none⟩) s.size pc, .int .u32 (off : Int)] 82) HB.out)
            have x1 : (wr.alloc (.cells #[.slice (some ⟨pg, 0, none⟩) s.size pc, .int .u32 (off : Int)] 82)).cell? ⟨wr.heap.size, 0, none⟩ = some (.slice (some ⟨pg, 0, none⟩) s.size pc) := by rw [Lib.cell_of_heap (heap_alloc_new wr _)]; rfl
            have x2 : (wr.alloc (.cells #[.slice (some ⟨pg, 0, none⟩) s.size pc, .int .u32 (off : Int)] 82)).cell? ⟨wr.heap.size, 1, none⟩ = some (.int .u32 (off : Int)) := by rw [Lib.cell_of_heap (heap_alloc_new wr _)]; rfl
            generalize wr.alloc (.cells #[.slice (some ⟨pg, 0, none⟩) s.size pc, .int .u32 (off : Int)] 82) = W at hbW HBW x1 x2 ⊢
            have i1 : (0 : Int) ≤ (off : Int) := Int.natCast_nonneg _
            have i2 : (off : Int) ≤ (t : Int) := by omega
            go_still_tail 6, (by kernel_rfl)
            change wpList _ _ _ _ _ W.drew
            have hsl : (Lib.byteCells s.data.toList).length = s.size := by rw [Lib.byteCells_length]; simp
            have hsrc : ∀ j v, (Lib.byteCells s.data.toList)[j]? = some v → W.drew.cell? ((⟨pg, 0, none⟩ : Addr).add j) = some v := fun j v hv => by
              obtain ⟨C, fr, hpgc, hC⟩ := HBK.out
              have hj : j < s.size := by have := (List.getElem?_eq_some_iff.1 hv).1; omega
              have e : (⟨pg, 0, none⟩ : Addr).add j = ⟨pg, j, none⟩ := by unfold Addr.add; split <;> simp_all
              rw [e]
              show W.cell? _ = _
              rw [hbW.cell (p := ⟨pg, j, none⟩) (Array.getElem?_eq_some_iff.1 hpgc).1, World.cell?, hpgc]
              have h2 := hC j hj
              have h3 : (Lib.byteCells s.data.toList)[j]? = some (.int .u8 ((s[j]'hj).toNat : Int)) := by
                unfold Lib.byteCells
                rw [List.getElem?_map, List.getElem?_eq_getElem (by simpa using hj)]
                rfl
              rw [h3] at hv
              simpa [← hv] using h2
            refine wpList_copy_splice (by rfl) _ _ _ _ (by rfl) 5 Try.underlying37 sizeU8 _ _ _ _ _ _ (by rfl) (by rfl) w.heap.size off (Lib.byteCells buf) 5 HBW.out (Lib.byteCells s.data.toList) (by rw [hsl]; exact (Nat.min_eq_left (by omega)).symm) (fun h => ⟨by rw [if_neg (by omega)], _, rfl, hsrc⟩) (by rw [hsl, Lib.byteCells_length, HBL.out]; exact hle) (Lib.byteCells_one _) w.heap.size w (hbW.trans ⟨rfl, rfl, rfl, Nat.le_refl _, fun _ _ => rfl⟩) (Nat.le_refl _) ?_
            intro w2 HB2 hb2
            have HB3 : Hid (w2.heap[w.heap.size]? = some (.cells (Lib.byteCells (splice buf off s.data.toList)).toArray 5 (0, 0))) := by have h := HB2.out; rw [splice_cells] at h; exact h
            clear HB2 hbW HBW x1 x2 HB HG
            obtain ⟨buf2, hb3⟩ : ∃ b, b = splice buf off s.data.toList := ⟨_, rfl⟩
            rw [← hb3] at HB3 HG2
            clear hb3
            go_wp2
            go_roundw
            case rel => exact ⟨q + 1, buf2, by omega, by simp, HB3, HG2, hb2⟩
            case measure => simp [intOf]; omega
          · obtain rfl : q = m := by omega
            have hw := HG.out.whole (fun j hj => HC.out j (by rw [HT.out]; exact hj))
            have HW := Lib.hid hw
            clear hw
            go_wp2
            go_ret
            exact ⟨w.heap.size, rfl, by have h := HB.out; rw [HW.out] at h; exact h, hb⟩
end Go.Proofs.Ytfpfpdjnmfiffaa
