/- The small functions that the percent-escaping calls; a builder by its bytes. -/
import Derived.Test.YtmfbnmjmgpafmaaDoorPctP
import Derived.Test.YtmfbnmjmgpafmaaDoorBuilder
import Derived.Test.YtmfbnmjmgpafmaaDoorShelf
import Derived.Test.YtmfbnmjmgpafmaaDoorUnits
import Derived.Lib.RuneCountTail
import Derived.Lib.FrozenHead2
namespace Go.Proofs.YtmfbnmjmgpafmaaDoor
open Go.RowKit
set_option linter.unusedVariables false
set_option linter.unusedSimpArgs false
def numCells (l : List Nat) : List Value := l.map fun n : Nat => Value.int .u8 (n : Int)
theorem cells_of (s : ByteArray) : Lib.strCells s = numCells (nums s) := by simp [Lib.strCells, numCells, nums]
theorem cells_app (l m : List Nat) : numCells (l ++ m) = numCells l ++ numCells m := by simp [numCells]
theorem cells_len (l : List Nat) : (numCells l).length = l.length := by simp [numCells]
theorem map_back : ∀ l : List Nat, (∀ b ∈ l, b < 256) → (l.map UInt8.ofNat).map UInt8.toNat = l
  | [], _ => rfl
  | b :: r, h => by
    have h1 := map_back r (fun x hx => h x (List.mem_cons_of_mem _ hx))
    have h2 : b % 256 = b := Nat.mod_eq_of_lt (h b (List.mem_cons_self ..))
    rw [List.map_cons, List.map_cons, h1, UInt8.toNat_ofNat']
    rw [h2]
theorem exists_text (l : List Nat) (h : ∀ b ∈ l, b < 256) : ∃ q : ByteArray, nums q = l :=
  ⟨⟨(l.map UInt8.ofNat).toArray⟩, by unfold nums; exact map_back l h⟩
/-- The builder in block B holds the bytes acc. -/
def Bld (B : Nat) (acc : List Nat) (w : World) : Prop := Lib.IsBuilderF 49 5 B B (numCells acc) w
theorem Bld.lt {B : Nat} {acc : List Nat} {w : World} (h : Bld B acc w) : B < w.heap.size := by
  rcases h with h | h <;> exact h.lt
theorem Bld.fresh (w : World) : Bld w.heap.size [] (w.alloc (.cells #[.pointer none, .slice none 0 0] 49)) := Lib.IsBuilderF.of (Lib.fresh_isBuilder 49 5 w)
theorem ownF_below {base e size n : Nat} {v : Value} {xs : List Value} {w w' : World} (h : w.ownsRowF base e size v n xs) (hb : Below w.heap.size w w') : w'.ownsRowF base e size v n xs :=
  h.kept (w' := w') (row := none) ⟨hb.os, hb.tape, hb.output, hb.size, fun k hk _ => hb.block k hk⟩ (by cases hv : v.ownBlock <;> simp)
theorem Bld.below {B : Nat} {acc : List Nat} {w w' : World} (h : Bld B acc w) (hb : Below w.heap.size w w') : Bld B acc w' := by
  rcases h with h | h
  · obtain ⟨h1, v, h2, h3, h4⟩ := h
    exact .inl ⟨h1, v, (hb.block B (Array.getElem?_eq_some_iff.1 h2).1).trans h2, ownF_below h3 hb, h4⟩
  · obtain ⟨h1, v, h2, h3, h4⟩ := h
    exact .inr ⟨h1, v, (hb.block B (Array.getElem?_eq_some_iff.1 h2).1).trans h2, ownF_below h3 hb, h4⟩
theorem bld_string {B : Nat} {acc : List Nat} (s : ByteArray) {w : World} (h : Bld B acc w) (hl : acc.length ≤ 1000000) (hs : s.size ≤ 1000000) :
    Calls Tryd.prog 16 #[.pointer (some ⟨B, 0, none⟩), .string s] w fun e w' => e = .returned (.tuple #[.int .i64 s.size, .nilIface]) ∧ Bld B (acc ++ nums s) w' ∧ Below B w w' := by
  refine (writeString_any B B (numCells acc) s w h (by rw [cells_len]; omega) (Nat.le_of_lt h.lt)).mono ?_
  rintro e w' ⟨rfl, h1, h2, h3⟩
  exact ⟨rfl, by unfold Bld; rw [cells_app, ← cells_of]; exact .inr h1, h2⟩
theorem bld_byte {B : Nat} {acc : List Nat} (c : Nat) (x : Int) (hx : x = (c : Int)) {w : World} (h : Bld B acc w) (hl : acc.length ≤ 1000000) :
    Calls Tryd.prog 17 #[.pointer (some ⟨B, 0, none⟩), .int .u8 x] w fun e w' => e = .returned .nilIface ∧ Bld B (acc ++ [c]) w' ∧ Below B w w' := by
  subst hx
  refine (writeByte_any B B (numCells acc) _ w h (by rw [cells_len]; omega) (Nat.le_of_lt h.lt)).mono ?_
  rintro e w' ⟨rfl, h1, h2, h3⟩
  exact ⟨rfl, by unfold Bld; rw [cells_app]; exact .inr h1, h2⟩
theorem bld_text {B : Nat} {acc : List Nat} {q : ByteArray} {w : World} (h : Bld B acc w) (hq : nums q = acc) :
    Calls Tryd.prog 20 #[.pointer (some ⟨B, 0, none⟩)] w fun e w' => e = .returned (.string q) ∧ Below B w w' := by
  have e : Lib.byteCells q.data.toList = numCells acc := by rw [← hq]; simp [Lib.byteCells, numCells, nums]
  have h2 : Lib.IsBuilderF 49 5 B B (Lib.byteCells q.data.toList) w := by rw [e]; exact h
  refine (Tryd.Builder_String_any_f B B q.data.toList w h2 (Nat.le_of_lt h.lt)).mono ?_
  rintro e w' ⟨rfl, _, hb⟩
  exact ⟨rfl, hb⟩
theorem tabs_below {B : Nat} {w w' : World} (h : Lib.Utf8Tabs 0 1 w) (hB : 1 < B) (hb : Below B w w') : Lib.Utf8Tabs 0 1 w' :=
  ⟨fun c hc => (hb.cell (by show 0 < B; omega)).trans (h.1 c hc), fun i hi => ⟨(hb.cell (by show 1 < B; omega)).trans (h.2 i hi).1, (hb.cell (by show 1 < B; omega)).trans (h.2 i hi).2⟩⟩
theorem decGo (s : ByteArray) (pos : Nat) (hp : pos < s.size) : Lib.decodeGo (s.extract pos s.size) = Utf8.decode s pos := by
  unfold Lib.decodeGo
  have h : ¬ (s.extract pos s.size).size = 0 := by simp; omega
  rw [if_neg h, Lib.tail_decode]
  rfl
theorem dec_at (s : ByteArray) (pos r n : Nat) (hs : Sign s pos r n) (hp : pos < s.size) (w : World) (hT : Lib.Utf8Tabs 0 1 w) : Calls Tryd.prog 18 #[.string (s.extract pos s.size)] w fun e w' => e = .returned (.tuple #[.int .i32 (r : Int), .int .i64 (n : Int)]) ∧ Below w.heap.size w w' := by
  have := Tryd.utf8_DecodeRuneInString (s.extract pos s.size) w hT
  rw [decGo s pos hp, hs.dec] at this
  exact this
set_option maxRecDepth 100000 in
set_option maxHeartbeats 1000000 in
theorem isHex_any (c : Nat) (w : World) (hc : c < 256) : Calls Tryd.prog 19 #[.int .u8 (c : Int)] w fun e w' => e = .returned (.bool (isHexN c)) ∧ w = w' := by
  have key : ∀ b : Bool, isHexN c = b → (Calls Tryd.prog 19 #[.int .u8 (c : Int)] w fun e w' => e = .returned (.bool b) ∧ w = w') → Calls Tryd.prog 19 #[.int .u8 (c : Int)] w fun e w' => e = .returned (.bool (isHexN c)) ∧ w = w' := fun b h k => by rw [h]; exact k
  by_cases h1 : 48 ≤ c
  · have t1 : decide ((48 : Int) ≤ (c : Int)) = true := by simp; omega
    by_cases h2 : c ≤ 57
    · have t2 : decide ((c : Int) ≤ 57) = true := by simp; omega
      refine key true (by simp [isHexN]; omega) ?_
      clear h1 h2 hc key
      go_enter Tryd.func19, Tryd.ntmps19
      go_wp2
      go_ret
      exact ⟨rfl, rfl⟩
    · have t2 : decide ((c : Int) ≤ 57) = false := by simp; omega
      by_cases h3 : 97 ≤ c
      · have t3 : decide ((97 : Int) ≤ (c : Int)) = true := by simp; omega
        have t5 : decide ((65 : Int) ≤ (c : Int)) = true := by simp; omega
        have t6 : decide ((c : Int) ≤ 70) = false := by simp; omega
        by_cases h4 : c ≤ 102
        · have t4 : decide ((c : Int) ≤ 102) = true := by simp; omega
          refine key true (by simp [isHexN]; omega) ?_
          clear h1 h2 hc h3 h4 key
          go_enter Tryd.func19, Tryd.ntmps19
          go_wp2
          go_ret
          exact ⟨rfl, rfl⟩
        · have t4 : decide ((c : Int) ≤ 102) = false := by simp; omega
          refine key false (by simp [isHexN]; omega) ?_
          clear h1 h2 hc h3 h4 key
          go_enter Tryd.func19, Tryd.ntmps19
          go_wp2
          go_ret
          exact ⟨rfl, rfl⟩
      · have t3 : decide ((97 : Int) ≤ (c : Int)) = false := by simp; omega
        by_cases h5 : 65 ≤ c
        · have t5 : decide ((65 : Int) ≤ (c : Int)) = true := by simp; omega
          by_cases h6 : c ≤ 70
          · have t6 : decide ((c : Int) ≤ 70) = true := by simp; omega
            refine key true (by simp [isHexN]; omega) ?_
            clear h1 h2 hc h3 h5 h6 key
            go_enter Tryd.func19, Tryd.ntmps19
            go_wp2
            go_ret
            exact ⟨rfl, rfl⟩
          · have t6 : decide ((c : Int) ≤ 70) = false := by simp; omega
            refine key false (by simp [isHexN]; omega) ?_
            clear h1 h2 hc h3 h5 h6 key
            go_enter Tryd.func19, Tryd.ntmps19
            go_wp2
            go_ret
            exact ⟨rfl, rfl⟩
        · have t5 : decide ((65 : Int) ≤ (c : Int)) = false := by simp; omega
          refine key false (by simp [isHexN]; omega) ?_
          clear h1 h2 hc h3 h5 key
          go_enter Tryd.func19, Tryd.ntmps19
          go_wp2
          go_ret
          exact ⟨rfl, rfl⟩
  · have t1 : decide ((48 : Int) ≤ (c : Int)) = false := by simp; omega
    have t3 : decide ((97 : Int) ≤ (c : Int)) = false := by simp; omega
    have t5 : decide ((65 : Int) ≤ (c : Int)) = false := by simp; omega
    refine key false (by simp [isHexN]; omega) ?_
    clear h1 hc key
    go_enter Tryd.func19, Tryd.ntmps19
    go_wp2
    go_ret
    exact ⟨rfl, rfl⟩
/-- Where the trailing spaces begin. -/
def trail (t : List Nat) : Nat → Nat
  | 0 => 0
  | k + 1 => if t.getD k 0 = 32 then trail t k else k + 1
theorem trail_le (t : List Nat) : ∀ k, trail t k ≤ k
  | 0 => Nat.le_refl _
  | k + 1 => by
    unfold trail
    split
    · exact Nat.le_trans (trail_le t k) (Nat.le_succ _)
    · exact Nat.le_refl _
theorem trail_sp (t : List Nat) : ∀ k i, trail t k ≤ i → i < k → t.getD i 0 = 32
  | 0, i, _, h => by omega
  | k + 1, i, h, hi => by
    unfold trail at h
    split at h
    · rename_i h32
      by_cases hik : i = k
      · subst hik; exact h32
      · exact trail_sp t k i h (by omega)
    · omega
theorem tail_of (s : ByteArray) : Tail (nums s) (trail (nums s) s.size) :=
  ⟨nums_lt s, fun i h hi => trail_sp _ s.size i h (by rw [nums_len] at hi; exact hi)⟩
/-- Bytes that stand as they are. -/
theorem pct_raw {s : ByteArray} {T : Nat} (n : Nat) : ∀ i, i + n ≤ s.size → (∀ j, i ≤ j → j < i + n → escD (nums s) T j = false) → pctFrom (nums s) T i = part s i n ++ pctFrom (nums s) T (i + n) := by
  induction n with
  | zero => intro i _ _; rw [part_zero]; rfl
  | succ n ih =>
    intro i hi h
    obtain ⟨b, hb, hp⟩ := part_cons (s := s) (p := i) (n := n) (by omega)
    have hlt : i < (nums s).length := by rw [nums_len]; omega
    rw [pct_step hlt, pctAt, if_neg (by rw [h i (Nat.le_refl _) (by omega)]; simp), hp, ih (i + 1) (by omega) (fun j h1 h2 => h j (by omega) (by omega)), show i + 1 + n = i + (n + 1) by omega]
    have : (nums s).getD i 0 = b := by rw [List.getD, hb]; rfl
    rw [this]
    rfl
/-- What was written, the bytes that wait, and what is still to come. -/
def PSt (s : ByteArray) (T : Nat) (hd acc : List Nat) (rs i : Nat) : Prop := rs ≤ i ∧ i ≤ s.size ∧ acc ++ part s rs (i - rs) ++ pctFrom (nums s) T i = hd ++ pctFrom (nums s) T 0
theorem pst_start (s : ByteArray) (T : Nat) (hd : List Nat) : PSt s T hd hd 0 0 := ⟨Nat.le_refl _, Nat.zero_le _, by rw [part_zero, List.append_nil]⟩
theorem PSt.raw {s : ByteArray} {T : Nat} {hd acc : List Nat} {rs i n : Nat} (h : PSt s T hd acc rs i) (hn : i + n ≤ s.size) (hr : ∀ j, i ≤ j → j < i + n → escD (nums s) T j = false) : PSt s T hd acc rs (i + n) := by
  obtain ⟨h1, h2, h3⟩ := h
  refine ⟨by omega, hn, ?_⟩
  rw [pct_raw n i hn hr] at h3
  rw [show i + n - rs = (i - rs) + n by omega, part_app, show rs + (i - rs) = i by omega]
  simpa [List.append_assoc] using h3
theorem PSt.esc {s : ByteArray} {T : Nat} {hd acc : List Nat} {rs i b : Nat} (h : PSt s T hd acc rs i) (hi : i < s.size) (he : escD (nums s) T i = true) (hb : (nums s).getD i 0 = b) : PSt s T hd (acc ++ part s rs (i - rs) ++ [37, hx (b / 16), hx (b % 16)]) (i + 1) (i + 1) := by
  obtain ⟨h1, h2, h3⟩ := h
  refine ⟨Nat.le_refl _, by omega, ?_⟩
  rw [pct_step (by rw [nums_len]; exact hi), pctAt, if_pos he, hb] at h3
  rw [Nat.sub_self, part_zero, List.append_nil]
  simpa [List.append_assoc] using h3
theorem pct_len {t : List Nat} {T : Nat} (k : Nat) : ∀ i, t.length - i ≤ k → i ≤ t.length → (pctFrom t T i).length ≤ 3 * (t.length - i) := by
  induction k with
  | zero => intro i hk hi; rw [pct_end (by omega)]; simp
  | succ k ih =>
    intro i hk hi
    by_cases h : i < t.length
    · have h1 := ih (i + 1) (by omega) h
      have h2 : (pctAt t T i).length ≤ 3 := by unfold pctAt; split <;> simp
      rw [pct_step h, List.length_append]
      omega
    · rw [pct_end h]; simp
theorem PSt.len {s : ByteArray} {T : Nat} {hd acc : List Nat} {rs i : Nat} (h : PSt s T hd acc rs i) : acc.length ≤ hd.length + 3 * s.size := by
  have h1 := congrArg List.length h.2.2
  have h2 := pct_len (t := nums s) (T := T) s.size 0 (by rw [nums_len]; omega) (Nat.zero_le _)
  rw [nums_len] at h2
  simp only [List.length_append] at h1
  omega
theorem PSt.all {s : ByteArray} {T : Nat} {hd acc : List Nat} {rs : Nat} (h : PSt s T hd acc rs s.size) : acc ++ part s rs (s.size - rs) = hd ++ pctFrom (nums s) T 0 := by
  have := h.2.2
  rw [pct_end (by rw [nums_len]; omega), List.append_nil] at this
  exact this
end Go.Proofs.YtmfbnmjmgpafmaaDoor
