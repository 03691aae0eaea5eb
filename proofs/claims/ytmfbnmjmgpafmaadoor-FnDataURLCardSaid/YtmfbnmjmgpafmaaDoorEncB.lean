/- encoding/base64: Encode (32). -/
import Derived.Test.YtmfbnmjmgpafmaaDoorBufA
import Derived.StillTailTactics
import Derived.BigQuiet
import Derived.Lib.Hide
import Derived.Deep.QuietTactic
namespace Go.Proofs.YtmfbnmjmgpafmaaDoor
open Go.RowKit
set_option linter.unusedVariables false
set_option linter.unusedSimpArgs false
theorem enc_and (v d : Nat) (x : Int) (hx : x = ((v : Nat) : Int)) (hv : v < 18446744073709551616) (hd : v % 64 = d) : bits .and .u64 x 63 = (d : Int) := by
  subst hx
  rw [show (63 : Int) = ((63 : Nat) : Int) from rfl, u64_and_nat v 63 hv (by omega), nat_mask6, hd]
theorem enc_or (i x b y : Nat) (X Y : Int) (hX : X = ((2 ^ i * x : Nat) : Int)) (hY : Y = (b : Int)) (hx : 2 ^ i * x + b < 18446744073709551616) (hb : b < 2 ^ i) (hy : 2 ^ i * x + b = y) : bits .or .u64 X Y = (y : Int) := by
  subst hX hY
  rw [u64_or_nat _ _ (by omega) (by omega), ← Nat.two_pow_add_eq_or_of_lt hb, hy]
noncomputable def digCells : List Value := (List.range 64).map fun d => Value.int .u8 (dg d : Nat)
/-- An Encoding's first array, as one load reads it. -/
theorem enc_range {B : Nat} {w : World} (h : EncAt B w) : w.rangeAt B 0 digCells := by
  intro j v hv
  unfold digCells at hv
  rw [List.getElem?_map] at hv
  obtain ⟨d, hd, rfl⟩ := Option.map_eq_some_iff.1 hv
  rw [List.getElem?_eq_some_iff] at hd
  obtain ⟨h1, h2⟩ := hd
  simp at h1 h2
  subst h2
  rw [Nat.zero_add]
  exact h.enc j h1
theorem info66 : (Tryd.prog.info? 66).map (·.size) = some digCells.length := by
  have : (Tryd.prog.info? 66).map (·.size) = some 64 := by kernel_rfl
  rw [this]
  simp [digCells]
theorem getD_dropped (l : List Nat) (n i : Nat) : l.getD (n + i) 0 = (l.drop n).getD i 0 := by simp [List.getD, List.getElem?_drop]
theorem drop_at {l : List Nat} {i : Nat} (h : i < l.length) : l.drop i = l.getD i 0 :: l.drop (i + 1) := by
  rw [List.drop_eq_getElem_cons h]
  simp [List.getD, List.getElem?_eq_getElem h]
theorem b64_three (l : List Nat) (k y : Nat) (h : 3 * k + 3 ≤ l.length) (hy : l.getD (3 * k) 0 * 65536 + l.getD (3 * k + 1) 0 * 256 + l.getD (3 * k + 2) 0 = y) :
    (b64 l).getD (4 * k) 0 = dg (y / 262144 % 64) ∧ (b64 l).getD (4 * k + 1) 0 = dg (y / 4096 % 64) ∧ (b64 l).getD (4 * k + 2) 0 = dg (y / 64 % 64) ∧ (b64 l).getD (4 * k + 3) 0 = dg (y % 64) := by
  have e : (b64 l).drop (4 * k) = _ := b64_drop k l (by omega)
  rw [drop_at (i := 3 * k) (by omega), drop_at (i := 3 * k + 1) (by omega), drop_at (i := 3 * k + 1 + 1) (by omega), b64, hy] at e
  have e0 := getD_dropped (b64 l) (4 * k) 0
  rw [Nat.add_zero] at e0
  rw [e0, getD_dropped, getD_dropped, getD_dropped, e]
  exact ⟨rfl, rfl, rfl, rfl⟩
theorem b64_two (l : List Nat) (k y : Nat) (h : l.length = 3 * k + 2) (hy : l.getD (3 * k) 0 * 65536 + l.getD (3 * k + 1) 0 * 256 = y) :
    (b64 l).getD (4 * k) 0 = dg (y / 262144 % 64) ∧ (b64 l).getD (4 * k + 1) 0 = dg (y / 4096 % 64) ∧ (b64 l).getD (4 * k + 2) 0 = dg (y / 64 % 64) ∧ (b64 l).getD (4 * k + 3) 0 = 61 := by
  have e : (b64 l).drop (4 * k) = _ := b64_drop k l (by omega)
  rw [drop_at (i := 3 * k) (by omega), drop_at (i := 3 * k + 1) (by omega), show l.drop (3 * k + 1 + 1) = [] from List.drop_eq_nil_of_le (by omega), b64, hy] at e
  have e0 := getD_dropped (b64 l) (4 * k) 0
  rw [Nat.add_zero] at e0
  rw [e0, getD_dropped, getD_dropped, getD_dropped, e]
  exact ⟨rfl, rfl, rfl, rfl⟩
theorem b64_one (l : List Nat) (k y : Nat) (h : l.length = 3 * k + 1) (hy : l.getD (3 * k) 0 * 65536 = y) :
    (b64 l).getD (4 * k) 0 = dg (y / 262144 % 64) ∧ (b64 l).getD (4 * k + 1) 0 = dg (y / 4096 % 64) ∧ (b64 l).getD (4 * k + 2) 0 = 61 ∧ (b64 l).getD (4 * k + 3) 0 = 61 := by
  have e : (b64 l).drop (4 * k) = _ := b64_drop k l (by omega)
  rw [drop_at (i := 3 * k) (by omega), show l.drop (3 * k + 1) = [] from List.drop_eq_nil_of_le (by omega), b64, hy] at e
  have e0 := getD_dropped (b64 l) (4 * k) 0
  rw [Nat.add_zero] at e0
  rw [e0, getD_dropped, getD_dropped, getD_dropped, e]
  exact ⟨rfl, rfl, rfl, rfl⟩
theorem getD_set (l : List Nat) (i j b : Nat) (h : i < l.length) : (l.set i b).getD j 0 = if i = j then b else l.getD j 0 := by
  simp only [List.getD, List.getElem?_set]
  by_cases e : i = j
  · subst e; simp [h]
  · simp [e]
/-- Four signs more. -/
theorem four_more {zk g : List Nat} {k x0 x1 x2 x3 : Nat} (hl : 4 * k + 4 ≤ zk.length) (hz : ∀ j, j < 4 * k → zk.getD j 0 = g.getD j 0) (h0 : g.getD (4 * k) 0 = x0) (h1 : g.getD (4 * k + 1) 0 = x1) (h2 : g.getD (4 * k + 2) 0 = x2) (h3 : g.getD (4 * k + 3) 0 = x3) :
    ((((zk.set (4 * k) x0).set (4 * k + 1) x1).set (4 * k + 2) x2).set (4 * k + 3) x3).length = zk.length ∧ ∀ j, j < 4 * (k + 1) → ((((zk.set (4 * k) x0).set (4 * k + 1) x1).set (4 * k + 2) x2).set (4 * k + 3) x3).getD j 0 = g.getD j 0 := by
  refine ⟨by simp, fun j hj => ?_⟩
  rw [getD_set _ _ _ _ (by simp; omega), getD_set _ _ _ _ (by simp; omega), getD_set _ _ _ _ (by simp; omega), getD_set _ _ _ _ (by omega)]
  split
  · rename_i e; rw [← e, h3]
  · split
    · rename_i e; rw [← e, h2]
    · split
      · rename_i e; rw [← e, h1]
      · split
        · rename_i e; rw [← e, h0]
        · exact hz j (by omega)
theorem Buf.same {D : Nat} {l g : List Nat} {W : World} (h : Buf D l W) (hl : l.length = g.length) (he : ∀ j, j < g.length → l.getD j 0 = g.getD j 0) : Buf D g W := by
  obtain ⟨cs, hc, hs⟩ := h
  exact ⟨cs, hc, fun j hj => by rw [hs j (by omega), he j hj]⟩
theorem EncAt.drewN {B : Nat} {w : World} (h : EncAt B w) (n : Nat) : EncAt B (w.drewN n) := ⟨h.enc, h.dec, h.pad, h.strict, h.lt⟩
theorem moved (G p n c : Nat) : ∃ p', (if c = n then some (⟨G, p, none⟩ : Addr) else some ⟨G, p + n, none⟩) = some ⟨G, p', none⟩ ∧ (c ≠ n → p' = p + n) := by
  by_cases h : c = n
  · exact ⟨p, by rw [if_pos h], fun e => absurd h e⟩
  · exact ⟨p + n, by rw [if_neg h], fun _ => rfl⟩
/-- Four stores into the row. -/
theorem four_put {B D G : Nat} {zk l : List Nat} {o x0 x1 x2 x3 : Nat} {w W : World} (hBD : B ≠ D) (hGD : G ≠ D) (h1 : Buf D zk W) (h2 : EncAt B W) (h3 : Cel G l W) (h4 : Below D w W) :
    let W' := (((W.setCell ⟨D, o, none⟩ (.int .u8 (x0 : Int))).setCell ⟨D, o + 1, none⟩ (.int .u8 (x1 : Int))).setCell ⟨D, o + 2, none⟩ (.int .u8 (x2 : Int))).setCell ⟨D, o + 3, none⟩ (.int .u8 (x3 : Int))
    Buf D ((((zk.set o x0).set (o + 1) x1).set (o + 2) x2).set (o + 3) x3) W' ∧ EncAt B W' ∧ Cel G l W' ∧ Below D w W' :=
  ⟨(((h1.put x0).put x1).put x2).put x3, (((h2.other hBD _).other hBD _).other hBD _).other hBD _, (((h3.other hGD _).other hGD _).other hGD _).other hGD _, (((h4.setCell (Nat.le_refl D) _).setCell (Nat.le_refl D) _).setCell (Nat.le_refl D) _).setCell (Nat.le_refl D) _⟩
def lenOf : Value → Nat | .slice _ n _ => n | _ => 0
set_option maxRecDepth 1000000 in
set_option maxHeartbeats 8000000 in
theorem encode_any (B D G : Nat) (l z : List Nat) (dc gc : Nat) (w : World) (hE : EncAt B w) (hS : Cel G l w) (hD : Buf D z w) (hz : z.length = (l.length + 2) / 3 * 4) (hl : l.length ≤ 1000) (hlt : ∀ b ∈ l, b < 256) (hBD : B ≠ D) (hGD : G ≠ D) (hgc : l.length ≤ gc) (hdc : z.length ≤ dc) (hbc : dc ≤ 100000) (hbg : gc ≤ 9223372036854775807) :
    Calls Tryd.prog 32 #[.pointer (some ⟨B, 0, none⟩), .slice (some ⟨D, 0, none⟩) z.length dc, .slice (some ⟨G, 0, none⟩) l.length gc] w fun e w' => e = .returned (.tuple #[]) ∧ Buf D (b64 l) w' ∧ Below D w w' := by
  have HE := Lib.hid hE
  have HS := Lib.hid hS
  have HD := Lib.hid hD
  have HLT : Hid (∀ i, i < l.length → l.getD i 0 < 256) := Lib.hid (fun i hi => hlt _ (by rw [List.getD, List.getElem?_eq_getElem hi]; exact List.getElem_mem _))
  have HM := Lib.hid hz
  clear hE hS hD hlt hz
  by_cases h0 : l.length = 0
  · have t0 : ((l.length : Int) == 0) = true := beq_iff_eq.2 (by omega)
    have e0 : Hid (Buf D (b64 l) w) := Lib.hid (HD.out.same (by have := HM.out; have := b64_len _ l (Nat.le_refl _); omega) (fun j hj => by have := b64_len _ l (Nat.le_refl _); omega))
    go_enter Tryd.func32, Tryd.ntmps32
    go_wp2_with fail
    go_returns
    exact ⟨rfl, e0, Below.refl D w⟩
  · have t0 : ((l.length : Int) == 0) = false := beq_eq_false_iff_ne.2 (by omega)
    go_enter Tryd.func32, Tryd.ntmps32
    go_wp2_with (refine wpList_load_mid rfl 66 _ rfl B 0 rfl digCells _ (enc_range HE.out) Tryd.underlying66 rfl info66 ?_; go_simp)
    go_loopw [2, 1] (fun sv dv W => ∃ (k o p dn ds gn gs : Nat) (zk : List Nat), sv = .slice (some ⟨G, p, none⟩) gn gs ∧ dv = .slice (some ⟨D, o, none⟩) dn ds ∧ Hid ((0 < dn → o = 4 * k) ∧ (0 < gn → p = 3 * k) ∧ gn + 3 * k = l.length ∧ dn + 4 * k = z.length) ∧ gn ≤ gs ∧ dn ≤ ds ∧ ds ≤ 100000 ∧ gs ≤ 9223372036854775807 ∧ Hid (zk.length = z.length ∧ ∀ j, j < 4 * k → zk.getD j 0 = (b64 l).getD j 0) ∧ Hid (Buf D zk W) ∧ Hid (EncAt B W) ∧ Hid (Cel G l W) ∧ Hid (Below D w W)) (fun sv _ _ => lenOf sv)
    case atStart => exact ⟨0, 0, 0, _, _, _, _, z, rfl, rfl, Lib.hid ⟨fun _ => rfl, fun _ => rfl, rfl, rfl⟩, hgc, hdc, hbc, hbg, Lib.hid ⟨rfl, fun j hj => absurd hj (Nat.not_lt_zero j)⟩, HD, HE, HS, Lib.hid (Below.refl D w)⟩
    case round =>
      clear hgc hdc hbc hbg HE HS HD h0 t0
      obtain ⟨k, o, p, dn, ds, gn, gs, zk, rfl, rfl, HN, h1, h2, h3, h4, HZ, HD, HE, HS, HL⟩ := hrel
      rename World => W
      have hDB := Ne.symm hBD
      by_cases hg : gn = 0
      · subst hg
        have HF : Hid (Buf D (b64 l) W ∧ Below D w W) := Lib.hid (by
          have hN := HN.out
          have hM := HM.out
          have hz := HZ.out
          have hb := b64_len _ l (Nat.le_refl _)
          exact ⟨HD.out.same (by omega) (fun j hj => hz.2 j (by omega)), HL.out⟩)
        clear HD HE HS HL
        go_wp2_with fail
        go_returns
        exact ⟨rfl, HF.out⟩
      · obtain ⟨a, ha⟩ : ∃ a, l.getD p 0 = a := ⟨_, rfl⟩
        have hp : p = 3 * k := HN.out.2.1 (by omega)
        have ho : o = 4 * k := HN.out.1 (by have := HN.out; have := HM.out; omega)
        have hN := HN.out
        have hM := HM.out
        have hdn : 4 ≤ dn := by omega
        have c0 := HS.out.cell (j := p) (by omega)
        have la := HLT.out p (by omega)
        rw [ha] at c0 la
        have k0 := HD.out.cell (j := o) (by have := HZ.out.1; omega)
        have k1 := HD.out.cell (j := o + 1) (by have := HZ.out.1; omega)
        have k2 := HD.out.cell (j := o + 2) (by have := HZ.out.1; omega)
        have k3 := HD.out.cell (j := o + 3) (by have := HZ.out.1; omega)
        have f0 := HD.out.free o
        have f1 := HD.out.free (o + 1)
        have f2 := HD.out.free (o + 2)
        have f3 := HD.out.free (o + 3)
        generalize zk.getD o 0 = v0 at k0
        generalize zk.getD (o + 1) 0 = v1 at k1
        generalize zk.getD (o + 2) 0 = v2 at k2
        generalize zk.getD (o + 3) 0 = v3 at k3
        by_cases hg3 : 3 ≤ gn
        · have t1 : decide ((3 : Int) ≤ (gn : Int)) = true := decide_eq_true (by omega)
          obtain ⟨b, hb⟩ : ∃ b, l.getD (p + 1) 0 = b := ⟨_, rfl⟩
          obtain ⟨c, hc⟩ : ∃ c, l.getD (p + 2) 0 = c := ⟨_, rfl⟩
          have c1 := HS.out.cell (j := p + 1) (by omega)
          have c2 := HS.out.cell (j := p + 2) (by omega)
          have lb := HLT.out (p + 1) (by omega)
          have lc := HLT.out (p + 2) (by omega)
          rw [hb] at c1 lb
          rw [hc] at c2 lc
          obtain ⟨y, hy⟩ : ∃ y, a * 65536 + b * 256 + c = y := ⟨_, rfl⟩
          have HB := Lib.hid (b64_three l k y (by omega) (by rw [← hp, ha, hb, hc]; exact hy))
          have y24 : y < 16777216 := by omega
          obtain ⟨x, hx⟩ : ∃ x, a * 65536 + b * 256 = x := ⟨_, rfl⟩
          have z1 := enc_or 16 a (b * 256) x ((a : Int) * 65536) ((b : Int) * 256) (by omega) (by omega) (by omega) (by omega) (by omega)
          have z2 := enc_or 8 (a * 256 + b) c y (x : Int) (c : Int) (by omega) (by omega) (by omega) (by omega) (by omega)
          have HP := Lib.hid hp
          have HO := Lib.hid ho
          clear ha hb hc hy hx hN hM hp ho
          obtain ⟨d0, hd0⟩ : ∃ d, y / 262144 % 64 = d := ⟨_, rfl⟩
          obtain ⟨d1, hd1⟩ : ∃ d, y / 4096 % 64 = d := ⟨_, rfl⟩
          obtain ⟨d2, hd2⟩ : ∃ d, y / 64 % 64 = d := ⟨_, rfl⟩
          obtain ⟨d3, hd3⟩ : ∃ d, y % 64 = d := ⟨_, rfl⟩
          have l0 : d0 < 64 := by omega
          have l1 : d1 < 64 := by omega
          have l2 : d2 < 64 := by omega
          have l3 : d3 < 64 := by omega
          have y0 := enc_and (y / 262144) d0 ((y : Int) / 262144) (by omega) (by omega) hd0
          have y1 := enc_and (y / 4096) d1 ((y : Int) / 4096) (by omega) (by omega) hd1
          have y2 := enc_and (y / 64) d2 ((y : Int) / 64) (by omega) (by omega) hd2
          have y3 := enc_and y d3 (y : Int) rfl (by omega) hd3
          have e0 := HE.out.enc d0 l0
          have e1 := HE.out.enc d1 l1
          have e2 := HE.out.enc d2 l2
          have e3 := HE.out.enc d3 l3
          obtain ⟨x0, hx0⟩ : ∃ x, dg d0 = x := ⟨_, rfl⟩
          obtain ⟨x1, hx1⟩ : ∃ x, dg d1 = x := ⟨_, rfl⟩
          obtain ⟨x2, hx2⟩ : ∃ x, dg d2 = x := ⟨_, rfl⟩
          obtain ⟨x3, hx3⟩ : ∃ x, dg d3 = x := ⟨_, rfl⟩
          rw [hx0] at e0
          rw [hx1] at e1
          rw [hx2] at e2
          rw [hx3] at e3
          have HX0 : Hid (dg (y / 262144 % 64) = x0) := Lib.hid (by rw [hd0, hx0])
          have HX1 : Hid (dg (y / 4096 % 64) = x1) := Lib.hid (by rw [hd1, hx1])
          have HX2 : Hid (dg (y / 64 % 64) = x2) := Lib.hid (by rw [hd2, hx2])
          have HX3 : Hid (dg (y % 64) = x3) := Lib.hid (by rw [hd3, hx3])
          clear hd0 hd1 hd2 hd3 hx0 hx1 hx2 hx3
          go_wp2_with fail
          go_quiet (fail)
          have HD1 : Hid (Buf D zk (W.drewN nq)) := HD
          have HE1 : Hid (EncAt B (W.drewN nq)) := Lib.hid (HE.out.drewN nq)
          have HS1 : Hid (Cel G l (W.drewN nq)) := HS
          have HL1 : Hid (Below D w (W.drewN nq)) := Lib.hid (HL.out.trans (Joins.below_draws D W nq))
          clear c0 c1 c2 z1 z2
          have k0' : (W.drewN nq).cell? _ = _ := k0
          clear k0
          have k0 := k0'
          clear k0'
          have k1' : (W.drewN nq).cell? _ = _ := k1
          clear k1
          have k1 := k1'
          clear k1'
          have k2' : (W.drewN nq).cell? _ = _ := k2
          clear k2
          have k2 := k2'
          clear k2'
          have k3' : (W.drewN nq).cell? _ = _ := k3
          clear k3
          have k3 := k3'
          clear k3'
          have e0' : (W.drewN nq).cell? _ = _ := e0
          clear e0
          have e0 := e0'
          clear e0'
          have e1' : (W.drewN nq).cell? _ = _ := e1
          clear e1
          have e1 := e1'
          clear e1'
          have e2' : (W.drewN nq).cell? _ = _ := e2
          clear e2
          have e2 := e2'
          clear e2'
          have e3' : (W.drewN nq).cell? _ = _ := e3
          clear e3
          have e3 := e3'
          clear e3'
          have f0' : (W.drewN nq).frozen? _ = _ := f0
          clear f0
          have f0 := f0'
          clear f0'
          have f1' : (W.drewN nq).frozen? _ = _ := f1
          clear f1
          have f1 := f1'
          clear f1'
          have f2' : (W.drewN nq).frozen? _ = _ := f2
          clear f2
          have f2 := f2'
          clear f2'
          have f3' : (W.drewN nq).frozen? _ = _ := f3
          clear f3
          have f3 := f3'
          clear f3'
          clear HD HE HS HL
          generalize W.drewN nq = W1 at HD1 HE1 HS1 HL1 k0 k1 k2 k3 f0 f1 f2 f3 e0 e1 e2 e3 ⊢
          have HF := Lib.hid (four_put (o := o) (x0 := x0) (x1 := x1) (x2 := x2) (x3 := x3) hBD hGD HD1.out HE1.out HS1.out HL1.out)
          have HR : Hid (Buf D zk W1) := HD1
          clear HD1 HE1 HS1 HL1
          go_wp2_with fail
          obtain ⟨p', hp', hq⟩ := moved G p 3 gs
          obtain ⟨o', ho', hq'⟩ := moved D o 4 ds
          rw [hp', ho']
          have hN := HN.out
          have hp := HP.out
          have ho := HO.out
          have hz := HZ.out
          refine ⟨⟨k + 1, o', p', _, _, _, _, _, rfl, rfl, Lib.hid ⟨fun h => by rw [hq' (by omega)]; omega, fun h => by rw [hq (by omega)]; omega, by omega, by omega⟩, by omega, by omega, by omega, by omega, Lib.hid ?_, Lib.hid HF.out.1, Lib.hid HF.out.2.1, Lib.hid HF.out.2.2.1, Lib.hid HF.out.2.2.2⟩, by simp [lenOf]; omega⟩
          subst ho
          have := four_more (by omega) hz.2 HB.out.1 HB.out.2.1 HB.out.2.2.1 HB.out.2.2.2
          rw [HX0.out, HX1.out, HX2.out, HX3.out] at this
          exact ⟨this.1.trans hz.1, this.2⟩
        · have t1 : decide ((3 : Int) ≤ (gn : Int)) = false := decide_eq_false (by omega)
          have hb4 := b64_len _ l (Nat.le_refl _)
          by_cases hg1 : gn = 1
          · subst hg1
            obtain ⟨y, hy⟩ : ∃ y, a * 65536 = y := ⟨_, rfl⟩
            have HB := Lib.hid (b64_one l k y (by omega) (by rw [← hp, ha]; exact hy))
            have y24 : y < 16777216 := by omega
            have HP := Lib.hid hp
            have HO := Lib.hid ho
            have ey : ((a : Int) * 65536) = (y : Int) := by omega
            clear ha hy hN hM hp ho
            obtain ⟨d0, hd0⟩ : ∃ d, y / 262144 % 64 = d := ⟨_, rfl⟩
            obtain ⟨d1, hd1⟩ : ∃ d, y / 4096 % 64 = d := ⟨_, rfl⟩
            have l0 : d0 < 64 := by omega
            have l1 : d1 < 64 := by omega
            have y0 := enc_and (y / 262144) d0 ((y : Int) / 262144) (by omega) (by omega) hd0
            have y1 := enc_and (y / 4096) d1 ((y : Int) / 4096) (by omega) (by omega) hd1
            have e0 := HE.out.enc d0 l0
            have e1 := HE.out.enc d1 l1
            obtain ⟨x0, hx0⟩ : ∃ x, dg d0 = x := ⟨_, rfl⟩
            obtain ⟨x1, hx1⟩ : ∃ x, dg d1 = x := ⟨_, rfl⟩
            rw [hx0] at e0
            rw [hx1] at e1
            have HX0 : Hid (dg (y / 262144 % 64) = x0) := Lib.hid (by rw [hd0, hx0])
            have HX1 : Hid (dg (y / 4096 % 64) = x1) := Lib.hid (by rw [hd1, hx1])
            clear hd0 hd1 hx0 hx1
            have p1 := HE.out.pad
            have HF := Lib.hid (four_put (o := o) (x0 := x0) (x1 := x1) (x2 := 61) (x3 := 61) hBD hGD HD.out HE.out HS.out HL.out)
            have HB4 := Lib.hid hb4
            clear HD HE HS HL hb4
            go_wp2_with fail
            go_returns
            refine ⟨rfl, ?_, HF.out.2.2.2⟩
            have hz := HZ.out
            have hN := HN.out
            have hM := HM.out
            have hb := HB4.out
            have ho := HO.out
            subst ho
            have := four_more (by omega) hz.2 HB.out.1 HB.out.2.1 HB.out.2.2.1 HB.out.2.2.2
            rw [HX0.out, HX1.out] at this
            exact HF.out.1.same (by omega) (fun j hj => this.2 j (by omega))
          · obtain rfl : gn = 2 := by omega
            obtain ⟨b, hb⟩ : ∃ b, l.getD (p + 1) 0 = b := ⟨_, rfl⟩
            have c1 := HS.out.cell (j := p + 1) (by omega)
            have lb := HLT.out (p + 1) (by omega)
            rw [hb] at c1 lb
            obtain ⟨y, hy⟩ : ∃ y, a * 65536 + b * 256 = y := ⟨_, rfl⟩
            have HB := Lib.hid (b64_two l k y (by omega) (by rw [← hp, ha, hb]; exact hy))
            have y24 : y < 16777216 := by omega
            have HP := Lib.hid hp
            have HO := Lib.hid ho
            have z1 := enc_or 16 a (b * 256) y ((a : Int) * 65536) ((b : Int) * 256) (by omega) (by omega) (by omega) (by omega) (by omega)
            clear ha hb hy hN hM hp ho
            obtain ⟨d0, hd0⟩ : ∃ d, y / 262144 % 64 = d := ⟨_, rfl⟩
            obtain ⟨d1, hd1⟩ : ∃ d, y / 4096 % 64 = d := ⟨_, rfl⟩
            obtain ⟨d2, hd2⟩ : ∃ d, y / 64 % 64 = d := ⟨_, rfl⟩
            have l0 : d0 < 64 := by omega
            have l1 : d1 < 64 := by omega
            have l2 : d2 < 64 := by omega
            have y0 := enc_and (y / 262144) d0 ((y : Int) / 262144) (by omega) (by omega) hd0
            have y1 := enc_and (y / 4096) d1 ((y : Int) / 4096) (by omega) (by omega) hd1
            have y2 := enc_and (y / 64) d2 ((y : Int) / 64) (by omega) (by omega) hd2
            have e0 := HE.out.enc d0 l0
            have e1 := HE.out.enc d1 l1
            have e2 := HE.out.enc d2 l2
            obtain ⟨x0, hx0⟩ : ∃ x, dg d0 = x := ⟨_, rfl⟩
            obtain ⟨x1, hx1⟩ : ∃ x, dg d1 = x := ⟨_, rfl⟩
            obtain ⟨x2, hx2⟩ : ∃ x, dg d2 = x := ⟨_, rfl⟩
            rw [hx0] at e0
            rw [hx1] at e1
            rw [hx2] at e2
            have HX0 : Hid (dg (y / 262144 % 64) = x0) := Lib.hid (by rw [hd0, hx0])
            have HX1 : Hid (dg (y / 4096 % 64) = x1) := Lib.hid (by rw [hd1, hx1])
            have HX2 : Hid (dg (y / 64 % 64) = x2) := Lib.hid (by rw [hd2, hx2])
            clear hd0 hd1 hd2 hx0 hx1 hx2
            have p1 := HE.out.pad
            have HB4 := Lib.hid hb4
            go_wp2_with fail
            go_quiet (fail)
            have HF1 : Hid (Buf D ((((zk.set o x0).set (o + 1) x1).set (o + 2) x2).set (o + 3) 61) (((((W.drewN nq).setCell ⟨D, o, none⟩ (.int .u8 (x0 : Int))).setCell ⟨D, o + 1, none⟩ (.int .u8 (x1 : Int))).setCell ⟨D, o + 2, none⟩ (.int .u8 (x2 : Int))).setCell ⟨D, o + 3, none⟩ (.int .u8 61)) ∧ Below D w (((((W.drewN nq).setCell ⟨D, o, none⟩ (.int .u8 (x0 : Int))).setCell ⟨D, o + 1, none⟩ (.int .u8 (x1 : Int))).setCell ⟨D, o + 2, none⟩ (.int .u8 (x2 : Int))).setCell ⟨D, o + 3, none⟩ (.int .u8 61))) := Lib.hid (by
              have HD1 : Buf D zk (W.drewN nq) := HD.out
              have HS1 : Cel G l (W.drewN nq) := HS.out
              have := four_put (o := o) (x0 := x0) (x1 := x1) (x2 := x2) (x3 := 61) hBD hGD HD1 (HE.out.drewN nq) HS1 (HL.out.trans (Joins.below_draws D W nq))
              exact ⟨this.1, this.2.2.2⟩)
            clear c0 z1
            have k0' : (W.drewN nq).cell? _ = _ := k0
            clear k0
            have k0 := k0'
            clear k0'
            have k1' : (W.drewN nq).cell? _ = _ := k1
            clear k1
            have k1 := k1'
            clear k1'
            have k2' : (W.drewN nq).cell? _ = _ := k2
            clear k2
            have k2 := k2'
            clear k2'
            have k3' : (W.drewN nq).cell? _ = _ := k3
            clear k3
            have k3 := k3'
            clear k3'
            have e0' : (W.drewN nq).cell? _ = _ := e0
            clear e0
            have e0 := e0'
            clear e0'
            have e1' : (W.drewN nq).cell? _ = _ := e1
            clear e1
            have e1 := e1'
            clear e1'
            have e2' : (W.drewN nq).cell? _ = _ := e2
            clear e2
            have e2 := e2'
            clear e2'
            have f0' : (W.drewN nq).frozen? _ = _ := f0
            clear f0
            have f0 := f0'
            clear f0'
            have f1' : (W.drewN nq).frozen? _ = _ := f1
            clear f1
            have f1 := f1'
            clear f1'
            have f2' : (W.drewN nq).frozen? _ = _ := f2
            clear f2
            have f2 := f2'
            clear f2'
            have f3' : (W.drewN nq).frozen? _ = _ := f3
            clear f3
            have f3 := f3'
            clear f3'
            have p1' : (W.drewN nq).cell? _ = _ := p1
            clear p1
            have p1 := p1'
            clear p1'
            clear HD HE HS HL hb4 c1
            generalize W.drewN nq = W1 at HF1 k0 k1 k2 k3 f0 f1 f2 f3 e0 e1 e2 p1 ⊢
            go_wp2_with fail
            go_returns
            refine ⟨rfl, ?_, HF1.out.2⟩
            have hz := HZ.out
            have hN := HN.out
            have hM := HM.out
            have hb := HB4.out
            have ho := HO.out
            subst ho
            have := four_more (by omega) hz.2 HB.out.1 HB.out.2.1 HB.out.2.2.1 HB.out.2.2.2
            rw [HX0.out, HX1.out, HX2.out] at this
            exact HF1.out.1.same (by omega) (fun j hj => this.2 j (by omega))
end Go.Proofs.YtmfbnmjmgpafmaaDoor
