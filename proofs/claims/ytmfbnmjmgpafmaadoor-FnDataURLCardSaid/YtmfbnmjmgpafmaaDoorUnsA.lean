/- net/url.ishex (51), unhex (52); plain: texts whose every percent sign begins an escape. -/
import Derived.Test.YtmfbnmjmgpafmaaDoorUnpA
namespace Go.Proofs.YtmfbnmjmgpafmaaDoor
open Go.RowKit
set_option linter.unusedVariables false
set_option linter.unusedSimpArgs false
/-- The table says of every digit of sixteen that it is one. -/
def UrlTab (R : Nat) (W : World) : Prop := ∀ c, isHexN c = true → ∃ v : Nat, W.cell? ⟨R, c, none⟩ = some (.int .u8 (v : Int)) ∧ 128 ≤ v ∧ v < 256
theorem url_below {B R : Nat} {w w' : World} (h : UrlTab R w) (hB : R < B) (hb : Below B w w') : UrlTab R w' := fun c hc => by
  obtain ⟨v, h1, h2⟩ := h c hc
  exact ⟨v, (hb.cell hB).trans h1, h2⟩
theorem and128 (v : Nat) (h1 : 128 ≤ v) (h2 : v < 256) : bits .and .u8 (v : Int) 128 = 128 := by
  have : ∀ v : Fin 256, 128 ≤ v.val → bits .and .u8 (v.val : Int) 128 = 128 := by decide +kernel
  exact this ⟨v, h2⟩ h1
theorem and15u (v : Nat) (h2 : v < 256) : bits .and .u8 (v : Int) 15 = ((v % 16 : Nat) : Int) := by
  have : ∀ v : Fin 256, bits .and .u8 (v.val : Int) 15 = ((v.val % 16 : Nat) : Int) := by decide +kernel
  exact this ⟨v, h2⟩
theorem or_nib (a b : Nat) (ha : a < 16) (hb : b < 16) : bits .or .u8 (16 * (a : Int)) (b : Int) = ((16 * a + b : Nat) : Int) := by
  have : ∀ a b : Fin 16, bits .or .u8 (16 * (a.val : Int)) (b.val : Int) = ((16 * a.val + b.val : Nat) : Int) := by decide +kernel
  exact this ⟨a, ha⟩ ⟨b, hb⟩
theorem hex_lt {c : Nat} (h : isHexN c = true) : c < 128 := by
  simp only [isHexN, Bool.or_eq_true, Bool.and_eq_true, decide_eq_true_eq] at h
  omega
theorem unhex_val {c : Nat} (h : isHexN c = true) : 9 * (c / 64) + c % 16 = hexVal c := by
  have : ∀ c : Fin 128, isHexN c.val = true → 9 * (c.val / 64) + c.val % 16 = hexVal c.val := by decide +kernel
  exact this ⟨c, hex_lt h⟩ h
set_option maxRecDepth 100000 in
theorem ishex_yes (c : Nat) (w : World) (h : isHexN c = true) (hT : UrlTab 3 w) : Calls Tryd.prog 51 #[.int .u8 (c : Int)] w fun e w' => e = .returned (.bool true) ∧ w' = w := by
  obtain ⟨v, h1, h2, h3⟩ := hT c h
  have hc := hex_lt h
  have a1 := and128 v h2 h3
  clear hT h
  go_enter Tryd.func51, Tryd.ntmps51
  go_wp2
  go_ret
  exact ⟨rfl, rfl⟩
set_option maxRecDepth 100000 in
theorem unhex_yes (c : Nat) (w : World) (h : isHexN c = true) : Calls Tryd.prog 52 #[.int .u8 (c : Int)] w fun e w' => e = .returned (.int .u8 (hexVal c : Int)) ∧ w' = w := by
  have hc := hex_lt h
  have hv := unhex_val h
  have a1 := and15u c (by omega)
  have hl : hexVal c < 16 := (hexI_yes h).2.2
  have HV := Lib.hid hv
  clear hv
  go_enter Tryd.func52, Tryd.ntmps52
  go_wp2
  go_ret
  have := HV.out
  have e : 9 * ((c : Int) / 64) + (c : Int) % 16 = ((hexVal c : Nat) : Int) := by omega
  exact ⟨by show Ending.returned (.int .u8 (9 * ((c : Int) / 64) + (c : Int) % 16)) = _; rw [e], rfl⟩
/-- Every percent sign begins an escape. -/
inductive Wf : List Nat → Prop
  | nil : Wf []
  | esc {b c : Nat} {r : List Nat} : isHexN b = true → isHexN c = true → Wf r → Wf (37 :: b :: c :: r)
  | raw {a : Nat} {r : List Nat} : a ≠ 37 → Wf r → Wf (a :: r)
theorem Wf.raw_of {a : Nat} {r : List Nat} (h : Wf (a :: r)) (ha : a ≠ 37) : Wf r := by
  cases h with
  | esc => exact absurd rfl ha
  | raw _ h => exact h
theorem Wf.esc_of {r : List Nat} (h : Wf (37 :: r)) : ∃ b c l, r = b :: c :: l ∧ isHexN b = true ∧ isHexN c = true ∧ Wf l := by
  cases h with
  | esc h1 h2 h3 => exact ⟨_, _, _, rfl, h1, h2, h3⟩
  | raw h _ => exact absurd rfl h
theorem Wf.at_esc {t : List Nat} {i : Nat} (h : Wf (t.drop i)) (hi : i < t.length) (h0 : t.getD i 0 = 37) :
    i + 2 < t.length ∧ isHexN (t.getD (i + 1) 0) = true ∧ isHexN (t.getD (i + 2) 0) = true ∧ Wf (t.drop (i + 3)) := by
  rw [drop_getD hi, h0] at h
  obtain ⟨b, c, l, hl, h1, h2, h3⟩ := h.esc_of
  have hlen := congrArg List.length hl
  simp only [List.length_drop, List.length_cons] at hlen
  have hi2 : i + 2 < t.length := by omega
  rw [drop_getD (by omega), drop_getD (i := i + 1 + 1) (by omega)] at hl
  simp only [List.cons.injEq] at hl
  exact ⟨hi2, by rw [hl.1]; exact h1, by rw [show i + 2 = i + 1 + 1 by omega, hl.2.1]; exact h2, by rw [show i + 3 = i + 1 + 1 + 1 by omega, hl.2.2]; exact h3⟩
theorem Wf.at_raw {t : List Nat} {i : Nat} (h : Wf (t.drop i)) (hi : i < t.length) (h0 : t.getD i 0 ≠ 37) : Wf (t.drop (i + 1)) := by
  rw [drop_getD hi] at h
  exact h.raw_of h0
theorem unp_wf_esc {t : List Nat} {i : Nat} (h : Wf (t.drop i)) (hi : i < t.length) (h0 : t.getD i 0 = 37) :
    unp (t.drop i) = (16 * hexVal (t.getD (i + 1) 0) + hexVal (t.getD (i + 2) 0)) :: unp (t.drop (i + 3)) := by
  obtain ⟨h1, h2, h3, _⟩ := h.at_esc hi h0
  exact unp_two h1 h0 h2 h3
theorem unp_wf_raw {t : List Nat} {i : Nat} (hi : i < t.length) (h0 : t.getD i 0 ≠ 37) : unp (t.drop i) = t.getD i 0 :: unp (t.drop (i + 1)) :=
  unp_one hi (fun h => h0 h.1)
/-- The escaped text of a text without percent signs. -/
theorem wf_pct {t : List Nat} {T : Nat} (h : Tail t T) (hp : ∀ j, j < t.length → t.getD j 0 ≠ 37) (k : Nat) : ∀ i, t.length - i ≤ k → Wf (pctFrom t T i) := by
  induction k with
  | zero => intro i hk; rw [pct_end (by omega)]; exact .nil
  | succ k ih =>
    intro i hk
    by_cases hi : i < t.length
    · have ih' := ih (i + 1) (by omega)
      rw [pct_step hi]
      cases he : escD t T i with
      | true =>
        have hl := esc_low h hi he
        rw [pctAt, if_pos he]
        exact .esc (hx_hex _ (by omega)).1 (hx_hex _ (by omega)).1 ih'
      | false =>
        rw [pctAt, if_neg (by simp [he])]
        exact .raw (hp i hi) ih'
    · rw [pct_end hi]; exact .nil
end Go.Proofs.YtmfbnmjmgpafmaaDoor
