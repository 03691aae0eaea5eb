/- Plain: what a text's quoting for JSON is, sign by sign, and that its reading gives the text. -/
import Derived.Test.YtmfbnmjmgpafmaaDoorUnitsP
import Derived.Lib.MapLaws
import Derived.Lib.Strings
import Derived.Lib.SmallJoins
import Derived.Lib.QuoteLoop
import Derived.Lib.DecodeN
import Derived.Stop.FmtQuoteTie
namespace Go.Proofs.YtmfbnmjmgpafmaaDoor
set_option linter.unusedVariables false
set_option linter.unusedSimpArgs false
/-- Is this sign printed as it stands? -/
def canP (r : Nat) (a : Bool) : Bool := if r ≤ 126 then decide (32 ≤ r) && !(r == 92) && !(r == 34) else !a && !(r == 65279) && (decide (r < 55296) || decide (57343 < r))
def hx (d : Nat) : Nat := if d < 10 then 48 + d else 55 + d
def u4 (r : Nat) : List Nat := [92, 117, hx (r / 4096 % 16), hx (r / 256 % 16), hx (r / 16 % 16), hx (r % 16)]
/-- A sign's escape. -/
def esc (r : Nat) : List Nat :=
  if r = 8 then [92, 98] else if r = 12 then [92, 102] else if r = 10 then [92, 110] else if r = 13 then [92, 114] else if r = 9 then [92, 116] else if r = 92 then [92, 92] else if r = 34 then [92, 34]
  else if r ≤ 65535 then u4 r else u4 (55296 + (r - 65536) / 1024) ++ u4 (56320 + (r - 65536) % 1024)
/-- The text's bytes, as numbers. -/
def nums (s : ByteArray) : List Nat := s.data.toList.map UInt8.toNat
theorem nums_len (s : ByteArray) : (nums s).length = s.size := by simp [nums]
theorem nums_at (s : ByteArray) (i : Nat) (h : i < s.size) : (nums s)[i]? = some (s[i]'h).toNat := by
  have h2 : i < s.data.toList.length := by simpa using h
  simp only [nums, List.getElem?_map, List.getElem?_eq_getElem h2, Option.map_some]
  rfl
theorem nums_lt (s : ByteArray) : ∀ b ∈ nums s, b < 256 := by
  intro b hb
  simp only [nums, List.mem_map] at hb
  obtain ⟨x, _, rfl⟩ := hb
  exact x.toNat_lt
def part (s : ByteArray) (p n : Nat) : List Nat := ((nums s).drop p).take n
def escAt (s : ByteArray) (a : Bool) (pos : Nat) : List Nat := if canP (Utf8.decode s pos).1 a = true then part s pos (Utf8.decode s pos).2 else esc (Utf8.decode s pos).1
def escFrom (s : ByteArray) (a : Bool) (pos : Nat) : List Nat :=
  if h : pos < s.size then escAt s a pos ++ escFrom s a (pos + (Utf8.decode s pos).2) else []
termination_by s.size - pos
decreasing_by have := decode_wide s pos; omega
theorem escFrom_end {s : ByteArray} {a : Bool} {pos : Nat} (h : ¬ pos < s.size) : escFrom s a pos = [] := by rw [escFrom, dif_neg h]
theorem escFrom_step {s : ByteArray} {a : Bool} {pos : Nat} (h : pos < s.size) : escFrom s a pos = escAt s a pos ++ escFrom s a (pos + (Utf8.decode s pos).2) := by rw [escFrom, dif_pos h]
/-- From here on the text is UTF-8. -/
def Good (s : ByteArray) (pos : Nat) : Prop := ∃ l, unitsFrom s pos = some l
/-- A sign stands here: its number, its width, its bytes. -/
structure Sign (s : ByteArray) (pos r n : Nat) : Prop where
  dec : Utf8.decode s pos = (r, n)
  wide : 1 ≤ n ∧ n ≤ 4
  inn : pos + n ≤ s.size
  val : r < 55296 ∨ (57343 < r ∧ r ≤ 1114111)
  kind : (n = 1 ∧ r < 128 ∧ part s pos n = [r]) ∨ (2 ≤ n ∧ 128 ≤ r ∧ ∀ b ∈ part s pos n, 128 ≤ b)
  enc : (Utf8.encode (r : Int)).data.toList.map UInt8.toNat = part s pos n
theorem extract_nums (s : ByteArray) (i j : Nat) : nums (s.extract i j) = ((nums s).drop i).take (j - i) := by
  unfold nums
  rw [Lib.extract_data, List.map_take, List.map_drop]
theorem append_nums (s t : ByteArray) : nums (s ++ t) = nums s ++ nums t := by
  unfold nums
  rw [Joins.data_append, List.map_append]
theorem nums_inj {s t : ByteArray} (h : nums s = nums t) : s = t := by
  have h2 : s.data.toList = t.data.toList := by
    unfold nums at h
    exact List.map_inj_right (fun a b e => UInt8.toNat_inj.1 e) |>.1 h
  cases s; cases t
  simp at h2
  rw [h2]
theorem three_bytes (s : ByteArray) (pos : Nat) (h : badAt s pos = false) : Utf8.decode s pos = (65533, 3) := by
  simp only [badAt, Bool.or_eq_false_iff, decide_eq_false_iff_not, Bool.not_eq_false'] at h
  obtain ⟨h1, h2⟩ := h
  have h3 : (s.extract pos (pos + 3)).toList = [239, 191, 189] := by simpa using h2
  rw [Lib.extract_toList, show pos + 3 - pos = 3 by omega] at h3
  rw [← Lib.decodeL_drop]
  generalize s.data.toList.drop pos = l at h3
  match l, h3 with
  | a :: b :: c :: r, h3 =>
    simp at h3
    obtain ⟨rfl, rfl, rfl⟩ := h3
    rw [Lib.decodeL_N]
    simp [Lib.decodeN]
theorem bytes_of_ints {l m : List UInt8} (h : l.map (fun x => (x.toNat : Int)) = m.map (fun x => (x.toNat : Int))) : l = m :=
  List.map_inj_right (fun a b e => UInt8.toNat_inj.1 (by exact Int.ofNat.inj e)) |>.1 h
theorem partZ (s : ByteArray) (pos : Nat) (hp : pos < s.size) (hv : ¬ ((Utf8.decode s pos).1 = 65533 ∧ (Utf8.decode s pos).2 = 1)) :
    (Utf8.encode ((Utf8.decode s pos).1 : Int)).data.toList = (s.data.toList.drop pos).take (Utf8.decode s pos).2 := by
  have hl : s.data.toList.drop pos ≠ [] := by
    intro e
    have := congrArg List.length e
    simp at this
    omega
  have h1 := Lib.encode_decode (s.data.toList.drop pos) hl (by rw [Lib.decodeL_drop]; exact hv)
  rw [Lib.decodeL_drop] at h1
  rw [← h1]
  have h2 := Extern.FmtText.encode_eq (Utf8.decode s pos).1
  unfold Lib.encodeRune
  rw [← h2]
  unfold Extern.FmtText.nums
  rw [List.map_map]
  apply List.ext_getElem?
  intro i
  rw [List.getElem?_map]
  cases (Utf8.encode ((Utf8.decode s pos).1 : Int)).data.toList[i]? <;> simp
theorem good_sign {s : ByteArray} {pos : Nat} (h : Good s pos) (hp : pos < s.size) : Sign s pos (Utf8.decode s pos).1 (Utf8.decode s pos).2 ∧ Good s (pos + (Utf8.decode s pos).2) := by
  obtain ⟨l, hl⟩ := h
  have hb : ¬ ((Utf8.decode s pos).1 = 65533 ∧ badAt s pos = true) := fun hb => by rw [units_bad hp hb.1 hb.2] at hl; cases hl
  rw [units_step hp hb] at hl
  obtain ⟨l2, h2, _⟩ := Option.map_eq_some_iff.1 hl
  refine ⟨?_, l2, h2⟩
  have hv : ¬ ((Utf8.decode s pos).1 = 65533 ∧ (Utf8.decode s pos).2 = 1) := fun ⟨e1, e2⟩ => by
    cases hq : badAt s pos with
    | true => exact hb ⟨e1, hq⟩
    | false => rw [three_bytes s pos hq] at e2; simp at e2
  have henc := partZ s pos hp hv
  have hin := decode_in s pos hp
  have hw := decode_wide s pos
  have hval := Lib.decodeN_valid (s.size - pos) (s.get! pos).toNat (s.get! (pos + 1)).toNat (s.get! (pos + 2)).toNat (s.get! (pos + 3)).toNat (UInt8.toNat_lt _)
  rw [← Lib.decode_at] at hval
  generalize hr : (Utf8.decode s pos).1 = r at *
  generalize hn : (Utf8.decode s pos).2 = n at *
  have henc2 : (Utf8.encode (r : Int)).data.toList.map UInt8.toNat = part s pos n := by
    rw [henc]; simp [part, nums, List.map_drop, List.map_take]
  have hlen : (part s pos n).length = n := by
    have : s.data.toList.length = s.size := by simp
    rw [part, List.length_take, List.length_drop, nums_len]; omega
  refine ⟨Prod.ext hr hn, hw, hin, hval, ?_, henc2⟩
  by_cases c1 : r < 128
  · left
    rw [Extern.FmtText.enc1 r c1] at henc2
    simp at henc2
    rw [← henc2] at hlen ⊢
    simp at hlen
    exact ⟨hlen.symm, c1, by rw [Nat.mod_eq_of_lt (by omega)]⟩
  · right
    by_cases c2 : r < 2048
    · rw [Extern.FmtText.enc2 r c1 c2] at henc2
      rw [← henc2] at hlen ⊢
      simp at hlen
      refine ⟨by omega, by omega, fun b hb => ?_⟩
      simp at hb
      omega
    · by_cases c3 : r < 65536
      · rw [Extern.FmtText.enc3 r c2 c3 (by omega)] at henc2
        rw [← henc2] at hlen ⊢
        simp at hlen
        refine ⟨by omega, by omega, fun b hb => ?_⟩
        simp at hb
        omega
      · rw [Extern.FmtText.enc4 r c3 (by omega)] at henc2
        rw [← henc2] at hlen ⊢
        simp at hlen
        refine ⟨by omega, by omega, fun b hb => ?_⟩
        simp at hb
        omega
end Go.Proofs.YtmfbnmjmgpafmaaDoor
