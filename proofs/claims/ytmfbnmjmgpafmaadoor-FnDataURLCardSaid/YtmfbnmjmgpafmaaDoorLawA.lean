/- What the two URLs are: plain facts, and the contracts of the calls in FnDataURL in terms of them. -/
import Derived.Test.YtmfbnmjmgpafmaaDoorDatC
namespace Go.Proofs.YtmfbnmjmgpafmaaDoor
open Go.RowKit
set_option linter.unusedVariables false
set_option linter.unusedSimpArgs false
def hd14 : ByteArray := ⟨#[100, 97, 116, 97, 58, 116, 101, 120, 116, 47, 99, 115, 115, 44]⟩
def hd21 : ByteArray := ⟨#[100, 97, 116, 97, 58, 116, 101, 120, 116, 47, 99, 115, 115, 59, 98, 97, 115, 101, 54, 52, 44]⟩
def css64 : ByteArray := ⟨#[116, 101, 120, 116, 47, 99, 115, 115, 59, 98, 97, 115, 101, 54, 52]⟩
theorem app_list (a b : ByteArray) : (a ++ b).data.toList = a.data.toList ++ b.data.toList := by simp
theorem idx_at (c : UInt8) (r : List UInt8) : ∀ l : List UInt8, (∀ b ∈ l, (b == c) = false) → Lib.indexByte (l ++ c :: r) c = (l.length : Int)
  | [], _ => by simp [Lib.indexByte]
  | b :: l, h => by
    have ih := idx_at c r l (fun x hx => h x (List.mem_cons_of_mem _ hx))
    have hb := h b (List.mem_cons_self ..)
    rw [List.cons_append, Lib.indexByte, hb, ih]
    have : ((l.length : Int) == -1) = false := beq_eq_false_iff_ne.2 (by omega)
    rw [this]
    simp
theorem cut_p (r : ByteArray) (h : r.size ≤ 10000) : Cut (hd14 ++ r) css r false 13 where
  pre := by rw [app_list]; rfl
  idx := by
    rw [app_list]
    exact idx_at 44 r.data.toList [100, 97, 116, 97, 58, 116, 101, 120, 116, 47, 99, 115, 115] (by decide)
  lo := by decide
  hi := by rw [ByteArray.size_append]; show 13 < 14 + r.size; omega
  mt := nums_inj (by rw [extract_nums, append_nums]; rfl)
  rest := nums_inj (by
    rw [extract_nums, append_nums, ByteArray.size_append]
    show (nums r).take (14 + r.size - 14) = nums r
    exact List.take_of_length_le (by rw [nums_len]; omega))
  suf := by decide +kernel
  sz := by rw [ByteArray.size_append]; show 14 + r.size ≤ 1000000; omega
theorem cut_b (r : ByteArray) (h : r.size ≤ 10000) : Cut (hd21 ++ r) css64 r true 20 where
  pre := by rw [app_list]; rfl
  idx := by
    rw [app_list]
    exact idx_at 44 r.data.toList [100, 97, 116, 97, 58, 116, 101, 120, 116, 47, 99, 115, 115, 59, 98, 97, 115, 101, 54, 52] (by decide)
  lo := by decide
  hi := by rw [ByteArray.size_append]; show 20 < 21 + r.size; omega
  mt := nums_inj (by rw [extract_nums, append_nums]; rfl)
  rest := nums_inj (by
    rw [extract_nums, append_nums, ByteArray.size_append]
    show (nums r).take (21 + r.size - 21) = nums r
    exact List.take_of_length_le (by rw [nums_len]; omega))
  suf := by decide +kernel
  sz := by rw [ByteArray.size_append]; show 21 + r.size ≤ 1000000; omega
/-- The text's two URLs: p and U. -/
structure Urls (s p r U q : ByteArray) : Prop where
  p : p = hd14 ++ r
  r : nums r = pctFrom (nums s) (trail (nums s) s.size) 0
  U : U = hd21 ++ q
  q : nums q = b64 (nums s)
theorem urls_of (s : ByteArray) : ∃ p r U q, Urls s p r U q := by
  obtain ⟨r, hr⟩ := exists_text (pctFrom (nums s) (trail (nums s) s.size) 0) (fun b hb => (pct_plain (tail_of s) _ 0 (Nat.le_refl _) b hb).2.2.2.2)
  obtain ⟨q, hq⟩ := exists_text (b64 (nums s)) (b64_256 _)
  exact ⟨_, r, _, q, rfl, hr, rfl, hq⟩
section
variable {s p r U q : ByteArray}
theorem Urls.rsize (h : Urls s p r U q) : r.size ≤ 3 * s.size := by
  have := pct_len (t := nums s) (T := trail (nums s) s.size) (nums s).length 0 (by omega) (Nat.zero_le _)
  rw [← h.r, nums_len, nums_len] at this
  omega
theorem Urls.psize (h : Urls s p r U q) : p.size = 14 + r.size := by
  rw [h.p, ByteArray.size_append]
  rfl
theorem Urls.qsize (h : Urls s p r U q) : q.size ≤ 4 * s.size + 4 := by
  have := b64_len _ (nums s) (Nat.le_refl _)
  rw [← h.q, nums_len, nums_len] at this
  omega
theorem Urls.usize (h : Urls s p r U q) : U.size = 21 + q.size := by
  rw [h.U, ByteArray.size_append]
  rfl
theorem Urls.pnums (h : Urls s p r U q) : nums p = pUrl (nums css) (nums s) := by
  rw [h.p, append_nums, h.r, pUrl, nums_len]
  rfl
theorem Urls.unums (h : Urls s p r U q) : nums U = bUrl (nums css) (nums s) := by
  rw [h.U, append_nums, h.q, bUrl]
  rfl
theorem Urls.unp (h : Urls s p r U q) : Go.Proofs.YtmfbnmjmgpafmaaDoor.unp (nums r) = nums s := by
  rw [h.r, unp_pct (tail_of s) _ 0 (Nat.le_refl _)]
  rfl
theorem Urls.plain (h : Urls s p r U q) : ∀ i, i < p.size → (nums p).getD i 0 ≠ 9 ∧ (nums p).getD i 0 ≠ 10 ∧ (nums p).getD i 0 ≠ 13 ∧ (nums p).getD i 0 ≠ 35 := by
  intro i hi
  have hm : (nums p).getD i 0 ∈ nums p := by
    rw [← nums_len] at hi
    rw [List.getD, List.getElem?_eq_getElem hi]
    exact List.getElem_mem _
  generalize (nums p).getD i 0 = b at hm ⊢
  rw [h.p, append_nums] at hm
  rcases List.mem_append.1 hm with hm | hm
  · have : ∀ b ∈ nums hd14, b ≠ 9 ∧ b ≠ 10 ∧ b ≠ 13 ∧ b ≠ 35 := by decide +kernel
    exact this b hm
  · rw [h.r] at hm
    have := pct_plain (tail_of s) _ 0 (Nat.le_refl _) b hm
    exact ⟨this.1, this.2.1, this.2.2.1, this.2.2.2.1⟩
theorem Urls.wf (h : Urls s p r U q) (hp : ∀ j, j < s.size → (nums s).getD j 0 ≠ 37) : Wf (nums r) := by
  rw [h.r]
  exact wf_pct (tail_of s) (fun j hj => hp j (by rw [← nums_len]; exact hj)) _ 0 (Nat.le_refl _)
/-- The shortest one. -/
def svOf (s p U : ByteArray) : ByteArray := if (pUrl (nums css) (nums s)).length < (bUrl (nums css) (nums s)).length then p else U
theorem Urls.sv (h : Urls s p r U q) : (svOf s p U = p ∨ svOf s p U = U) ∧ (svOf s p U).size ≤ p.size ∧ (svOf s p U).size ≤ U.size ∧ nums (svOf s p U) = sUrl (nums css) (nums s) := by
  have e1 := congrArg List.length h.pnums
  have e2 := congrArg List.length h.unums
  rw [nums_len] at e1 e2
  unfold svOf sUrl
  split
  · exact ⟨.inl rfl, Nat.le_refl _, by omega, h.pnums⟩
  · exact ⟨.inr rfl, by omega, Nat.le_refl _, h.unums⟩
/-- The bytes that the law takes. -/
def Fine (s : ByteArray) : Prop := ∀ i, i < s.size → ((nums s).getD i 0 = 9 ∨ (nums s).getD i 0 = 10 ∨ (nums s).getD i 0 = 13 ∨ 32 ≤ (nums s).getD i 0) ∧ (nums s).getD i 0 ≠ 127
theorem call5 (h : Urls s p r U q) (hs : s.size ≤ 300) (hg : Good s 0) (hf : Fine s) (W : World) (hW : 2 ≤ W.heap.size) (hT : Lib.Utf8Tabs 0 1 W) :
    Calls Tryd.prog 5 #[.string ⟨#[116, 101, 120, 116, 47, 99, 115, 115]⟩, .string s] W fun e w' => e = .returned (.tuple #[.string p, .bool true]) ∧ Below W.heap.size W w' := by
  refine (percentImpl_any css s W (by decide) hs hg (fun i hi => (hf i hi).1) hW hT).mono ?_
  rintro e w' ⟨⟨x, hx, rfl⟩, hb⟩
  obtain rfl : x = p := nums_inj (by rw [hx, h.pnums, pUrl, nums_len])
  exact ⟨rfl, hb⟩
theorem call6 (h : Urls s p r U q) (hs : s.size ≤ 300) (hg : Good s 0) (hf : Fine s) (W : World) (hW : 2 ≤ W.heap.size) (hT : Lib.Utf8Tabs 0 1 W) :
    Calls Tryd.prog 6 #[.string ⟨#[116, 101, 120, 116, 47, 99, 115, 115]⟩, .string s] W fun e w' => e = .returned (.string (svOf s p U)) ∧ Below W.heap.size W w' := by
  refine (shortestImpl_any css s W (by decide) hs hg (fun i hi => (hf i hi).1) hW hT).mono ?_
  rintro e w' ⟨⟨x, hx, rfl⟩, hb⟩
  obtain rfl : x = svOf s p U := nums_inj (by rw [hx, h.sv.2.2.2])
  exact ⟨rfl, hb⟩
theorem call7 (h : Urls s p r U q) (hs : s.size ≤ 300) (g cap : Nat) (W : World) (hc : Cel g (nums s) W) :
    Calls Tryd.prog 7 #[.slice (some ⟨g, 0, none⟩) s.size cap] W fun e w' => e = .returned (.string q) ∧ w' = W := by
  have := base64_any (nums s) g cap W (by rw [nums_len]; exact hs) (nums_lt s) (fun j hj => hc.cell hj)
  rw [nums_len] at this
  refine this.mono ?_
  rintro e w' ⟨⟨x, hx, rfl⟩, hb⟩
  obtain rfl : x = q := nums_inj (by rw [hx, h.q])
  exact ⟨rfl, hb⟩
theorem call8 (h : Urls s p r U q) (hs : s.size ≤ 300) (W : World) : Calls Tryd.prog 8 #[.string r] W fun e w' => e = .returned (.string s) ∧ Below W.heap.size W w' := by
  refine (percented_any r W (by have := h.rsize; omega)).mono ?_
  rintro e w' ⟨⟨x, hx, rfl⟩, hb⟩
  obtain rfl : x = s := nums_inj (by rw [hx, h.unp])
  exact ⟨rfl, hb⟩
theorem call9p (h : Urls s p r U q) (hs : s.size ≤ 300) (hp : ∀ j, j < s.size → (nums s).getD j 0 ≠ 37) (W : World) (hW : 3 < W.heap.size) (hT : UrlTab 3 W) :
    Calls Tryd.prog 9 #[.string p] W fun e w' => e = .returned (.tuple #[.int .i64 1, .string s, .bool true]) ∧ Below W.heap.size W w' := by
  have hr := h.rsize
  have hP := parse_any p css r false 13 W (by rw [h.p]; exact cut_p r (by omega)) css (fun e => by cases e) (fun _ => rfl)
  refine (dataOf_any p r false (nums s) W hP (fun W' hb => ?_)).mono ?_
  · have := decodeDataPct_any css r W' (by omega) (h.wf hp) (url_below hT hW hb) (Nat.lt_of_lt_of_le hW hb.size)
    rw [h.unp] at this
    exact this
  · rintro e w' ⟨⟨x, hx, rfl⟩, hb⟩
    obtain rfl : x = s := nums_inj hx
    exact ⟨rfl, hb⟩
theorem call9u (h : Urls s p r U q) (hs : s.size ≤ 300) (W : World) :
    Calls Tryd.prog 9 #[.string U] W fun e w' => e = .returned (.tuple #[.int .i64 1, .string s, .bool true]) ∧ Below W.heap.size W w' := by
  have hr := h.qsize
  have hP := parse_any U css64 q true 20 W (by rw [h.U]; exact cut_b q (by omega)) css (fun _ => ⟨by decide, by decide +kernel⟩) (fun e => by cases e)
  refine (dataOf_any U q true (nums s) W hP (fun W' hb => ?_)).mono ?_
  · exact decodeData64_any css q (nums s) W' h.q (by rw [nums_len]; omega) (nums_lt s)
  · rintro e w' ⟨⟨x, hx, rfl⟩, hb⟩
    obtain rfl : x = s := nums_inj hx
    exact ⟨rfl, hb⟩
theorem call9s (h : Urls s p r U q) (hs : s.size ≤ 300) (hp : ∀ j, j < s.size → (nums s).getD j 0 ≠ 37) (W : World) (hW : 3 < W.heap.size) (hT : UrlTab 3 W) :
    Calls Tryd.prog 9 #[.string (svOf s p U)] W fun e w' => e = .returned (.tuple #[.int .i64 1, .string s, .bool true]) ∧ Below W.heap.size W w' := by
  rcases h.sv.1 with e | e
  · rw [e]; exact call9p h hs hp W hW hT
  · rw [e]; exact call9u h hs W
end
end Go.Proofs.YtmfbnmjmgpafmaaDoor
