/- FnClosed holds for every list of parts: no condition. -/
import Derived.Test.YtfpfpdjnmfiffaaEscape
import Derived.Test.YtfpfpdjnmfiffaaLower
import Derived.ProofKit
import Derived.OpenShut
import Derived.ShutString
import Derived.ChangeOld
import Derived.SliceStrings
namespace Go.Proofs.Ytfpfpdjnmfiffaa.fnClosed
open Go.ChangeShapes Go.WideShapes Go.ChangeAt Go.RowKit
open Go.ChangeMaps (open_string shut_string)
set_option linter.unusedVariables false
set_option linter.unusedSimpArgs false

theorem closed_any (s : ByteArray) (w : World) (hs : s.size ≤ 1000) :
    Calls Try.prog 15 #[.string s, .string ⟨#[47, 115, 116, 121, 108, 101]⟩] w fun e w' => e = .returned (.string (escS s)) ∧ Below w.heap.size w w' := by
  have C := Lib.hid (escape_any s w hs)
  go_enter Try.func15, Try.ntmps15
  go_wp2_with (go_at_call 31; refine C.out.mono ?_; rintro e w1 ⟨rfl, hb⟩)
  go_ret
  exact ⟨rfl, hb⟩
theorem closed_big (w : World) : Calls Try.prog 15 #[.string ⟨#[60, 47, 83, 84, 89, 76, 69, 62]⟩, .string ⟨#[47, 115, 116, 121, 108, 101]⟩] w fun e w' => e = .returned (.string ⟨#[60, 92, 47, 83, 84, 89, 76, 69, 62]⟩) ∧ Below w.heap.size w w' := by
  have e : escS ⟨#[60, 47, 83, 84, 89, 76, 69, 62]⟩ = ⟨#[60, 92, 47, 83, 84, 89, 76, 69, 62]⟩ := by
    have : Esc.esc [60, 47, 83, 84, 89, 76, 69, 62] = [60, 92, 47, 83, 84, 89, 76, 69, 62] := by decide
    show (⟨(Esc.esc [60, 47, 83, 84, 89, 76, 69, 62]).toArray⟩ : ByteArray) = _
    rw [this]
  rw [← e]
  exact closed_any _ w (by decide)

/-- A text of printed signs without reverse solidi. -/
def Ok (T : ByteArray) : Prop := ∀ x ∈ T.data.toList, x ≠ 92
theorem ok_nil : Ok ⟨#[]⟩ := by intro x hx; simp at hx
theorem ok_app {T p : ByteArray} (h : Ok T) (hp : ∀ i (hi : i < p.size), (p[i]'hi).toNat ≠ 92) : Ok (T ++ p) := by
  intro x hx
  rw [show (T ++ p).data.toList = T.data.toList ++ p.data.toList by simp] at hx
  rcases List.mem_append.1 hx with hx | hx
  · exact h x hx
  · obtain ⟨i, hi, rfl⟩ := List.mem_iff_getElem.1 hx
    intro e
    exact hp i (by simpa using hi) (by
      have : p[i]'(by simpa using hi) = p.data.toList[i]'hi := rfl
      rw [this, e]; rfl)
theorem ext_list {a b : ByteArray} (h : a.data.toList = b.data.toList) : a = b := ByteArray.ext (Array.toList_inj.1 h)

/-- What is read back of an escaped text: no end of the tag, and the text itself. -/
theorem no_tag (T : ByteArray) (k : Nat) (hk : k + 7 ≤ (escS T).size) : ((lowS ((escS T).extract k (k + 7))).toList == [60, 47, 115, 116, 121, 108, 101]) = false := by
  refine toList_bne fun e => ?_
  have h := Esc.esc_free T.data.toList k
  rw [← Bool.not_eq_true, Esc.starts_iff] at h
  refine h ?_
  rw [Lib.toList_data] at e
  have e2 : (lowS ((escS T).extract k (k + 7))).data.toList = (((Esc.esc T.data.toList).drop k).take 7).map Esc.low := by
    show (((escS T).extract k (k + 7)).data.toList.map Esc.low) = _
    rw [Lib.extract_data, show k + 7 - k = 7 by omega]
    rfl
  rw [e2] at e
  exact e
def plainL (E : ByteArray) (k : Nat) : List UInt8 := (E.data.toList.take k).filter (fun b => b != 92)
theorem plain_step {E : ByteArray} {k : Nat} (hk : k < E.size) (h : (E[k]'hk).toNat ≠ 92) : plainL E (k + 1) = plainL E k ++ (E.extract k (k + 1)).data.toList := by
  have hl : k < E.data.toList.length := by simpa using hk
  have hv : E.data.toList[k] = E[k]'hk := rfl
  have hne : E[k]'hk ≠ 92 := fun e => h (by rw [e]; rfl)
  unfold plainL
  rw [List.take_succ_eq_append_getElem hl, List.filter_append, Lib.extract_data, show k + 1 - k = 1 by omega, List.drop_eq_getElem_cons hl, List.take_succ_cons, List.take_zero, hv]
  congr 1
  rw [List.filter_cons_of_pos (by simp [hne]), List.filter_nil]
theorem plain_skip {E : ByteArray} {k : Nat} (hk : k < E.size) (h : (E[k]'hk).toNat = 92) : plainL E (k + 1) = plainL E k := by
  have hl : k < E.data.toList.length := by simpa using hk
  have hv : E.data.toList[k] = E[k]'hk := rfl
  have he : E[k]'hk = 92 := UInt8.toNat_inj.1 (by rw [h]; rfl)
  unfold plainL
  rw [List.take_succ_eq_append_getElem hl, List.filter_append, hv, List.filter_cons_of_neg (by simp [he]), List.filter_nil, List.append_nil]
theorem plain_end {T : ByteArray} (h : Ok T) : plainL (escS T) (escS T).size = T.data.toList := by
  have e : (escS T).data.toList = Esc.esc T.data.toList := rfl
  have hl : (escS T).size = (escS T).data.toList.length := by simp
  unfold plainL
  rw [hl, List.take_length, e]
  exact Esc.esc_plain _ (fun hm => h _ hm rfl)
theorem escS_size (T : ByteArray) : (escS T).size ≤ 2 * T.size := by
  have := Esc.esc_length T.data.toList
  have e : (escS T).size = (Esc.esc T.data.toList).length := by
    have : (escS T).size = (escS T).data.toList.length := by simp
    rw [this]; rfl
  rw [e]; simpa using this
theorem size_extract_one {E : ByteArray} {k : Nat} (hk : k < E.size) : (E.extract k (k + 1)).size = 1 := by rw [ByteArray.size_extract]; omega

set_option maxRecDepth 100000 in
theorem e_parts (a : Option Addr) (n cap : Nat) (ss : List ByteArray) (w : World) (hS : Strs w a n ss) (hss : ∀ s ∈ ss, s.size ≤ 9223372036854775807) (hn : n ≤ 9223372036854775807) (hf : fitsB ss = false) :
    Calls Try.prog 7 #[.slice a n cap] w fun e w' => e = .returned (.bool true) ∧ Below w.heap.size w w' := by
  have C9 : Calls Try.prog 9 #[.slice a n cap] w fun e w'' => e = .returned (.bool false) ∧ w = w'' := by rw [← hf]; exact fits_any a n cap ss w hn hS
  clear hf hS hss
  go_enter Try.func7, Try.ntmps7
  go_wp2_with (go_at_call 9; refine C9.mono ?_; rintro e w1 ⟨rfl, rfl⟩)
  go_ret
  exact ⟨rfl, Below.refl _ _⟩

set_option maxRecDepth 100000 in
set_option maxHeartbeats 2000000 in
theorem no_parts (a : Option Addr) (cap : Nat) (w : World) :
    Calls Try.prog 7 #[.slice a (0 : Nat) cap] w fun e w' => e = .returned (.bool true) ∧ Below w.heap.size w w' := by
  have C9 : Calls Try.prog 9 #[.slice a (0 : Nat) cap] w fun e w'' => e = .returned (.bool true) ∧ w = w'' := fits_any a 0 cap [] w (by omega) ⟨rfl, .inl rfl⟩
  go_enter Try.func7, Try.ntmps7
  go_wp2_with (go_at_call 9; refine C9.mono ?_; rintro e w1 ⟨rfl, rfl⟩)
  go_loop [3, 15] (fun t i => i = .int .i64 0 ∧ t = .string ⟨#[]⟩) (fun _ _ => 0)
  case atStart => exact ⟨rfl, rfl⟩
  case round =>
    obtain ⟨rfl, rfl⟩ := hrel
    obtain ⟨T, hT⟩ : ∃ T : ByteArray, T = ⟨#[]⟩ := ⟨_, rfl⟩
    have HO := Lib.hid (show Ok T by rw [hT]; exact ok_nil)
    obtain ⟨n, hn0⟩ : ∃ n : Nat, n = 0 := ⟨_, rfl⟩
    have HT0 := Lib.hid (fun (_ : 20 < n) => show T.size = 0 by rw [hT]; rfl)
    have hTk : T.size ≤ 30 * n := by rw [hT]; exact Nat.zero_le _
    rw [← hT]
    clear hT
    have hT6 : T.size ≤ 600 := by
      by_cases h20 : n ≤ 20
      · omega
      · have := HT0.out (by omega); omega
    obtain ⟨E, hE⟩ : ∃ E, E = escS T := ⟨_, rfl⟩
    have CE := Lib.hid (closed_any T w (by omega))
    rw [← hE] at CE
    have HEZ : E.size ≤ 1200 := by rw [hE]; have := escS_size T; omega
    have HNT := Lib.hid (fun k (hk : k + 7 ≤ E.size) => show ((lowS (E.extract k (k + 7))).toList == [60, 47, 115, 116, 121, 108, 101]) = false by subst hE; exact no_tag T k hk)
    have HPE := Lib.hid (show plainL E E.size = T.data.toList by rw [hE]; exact plain_end HO.out)
    clear hE
    go_wp2_with (go_at_call 15; refine CE.out.mono ?_; rintro e w1 ⟨rfl, hb1⟩)
    clear CE
    go_loopw [8, 59] (fun t i wr => ∃ (k : Nat) (Q : ByteArray), k ≤ E.size ∧ i = .int .i64 k ∧ t = .string Q ∧ Q.size ≤ k ∧ Hid (Q.data.toList = plainL E k) ∧ Below w.heap.size w wr) (fun _ i _ => E.size - (intOf i).toNat)
    case atStart => exact ⟨0, ⟨#[]⟩, Nat.zero_le _, rfl, rfl, Nat.le_refl _, rfl, hb1⟩
    case round =>
      obtain ⟨k, Q, hk, rfl, rfl, hQ, HQ, hbw⟩ := hrel
      by_cases hkE : k < E.size
      · obtain ⟨x, hx⟩ : ∃ x, (E[k]'hkE).toNat = x := ⟨_, rfl⟩
        by_cases h92 : x = 92
        · have t1 : ((x : Int) == 92) = true := by rw [h92]; rfl
          have HS := Lib.hid (plain_skip hkE (by rw [hx]; exact h92))
          clear h92
          go_wp2
          go_roundw
          case rel => exact ⟨k + 1, Q, by omega, by go_num, rfl, by omega, by rw [HS.out]; exact HQ, hbw⟩
          case measure => simp [intOf]; omega
        · have t1 : ((x : Int) == 92) = false := by simp; omega
          have HS := Lib.hid (plain_step hkE (by rw [hx]; exact h92))
          have HZ := size_extract_one hkE
          have HZ1 : (E.extract k (k + 1)).size ≤ 1 := by omega
          clear h92 HZ
          by_cases h7 : k + 7 ≤ E.size
          · have t2 : decide ((k : Int) + 7 ≤ (E.size : Int)) = true := by simp; omega
            have t3 := HNT.out k h7
            have CL := lower_any (E.extract k (k + 7)) wr (by rw [ByteArray.size_extract]; omega)
            go_wp2_with (go_at_call 16; refine CL.mono ?_; rintro e w2 ⟨rfl, hb2⟩)
            go_roundw
            case rel => exact ⟨k + 1, _, by omega, by go_num, rfl, by rw [ByteArray.size_append]; omega, Lib.hid (by rw [HS.out, ← HQ.out]; simp), hbw.trans (hb2.mono hbw.size)⟩
            case measure => simp [intOf]; omega
          · have t2 : decide ((k : Int) + 7 ≤ (E.size : Int)) = false := by simp; omega
            go_wp2
            go_roundw
            case rel => exact ⟨k + 1, _, by omega, by go_num, rfl, by rw [ByteArray.size_append]; omega, Lib.hid (by rw [HS.out, ← HQ.out]; simp), hbw⟩
            case measure => simp [intOf]; omega
      · obtain rfl : k = E.size := by omega
        have hQT : Q = T := ext_list (by rw [HQ.out, HPE.out])
        subst hQT
        go_wp2_with (go_at_call 15; refine (closed_big _).mono ?_; rintro e w2 ⟨rfl, hb2⟩)
        go_ret
        exact ⟨by first | rfl | simp, hbw.trans (hb2.mono hbw.size)⟩

set_option maxRecDepth 100000 in
set_option maxHeartbeats 4000000 in
theorem some_parts (b off n cap : Nat) (ss : List ByteArray) (w : World) (hl : ss.length = n) (hlt : b < w.heap.size) (hc : ∀ i (h : i < ss.length), w.cell? ⟨b, off + i, none⟩ = some (.string (ss[i]'h))) (hss : ∀ s ∈ ss, s.size ≤ 9223372036854775807) (hn : n ≤ 9223372036854775807) (hf : fitsB ss = true) :
    Calls Try.prog 7 #[.slice (some ⟨b, off, none⟩) n cap] w fun e w' => e = .returned (.bool true) ∧ Below w.heap.size w w' := by
  have C9 : Calls Try.prog 9 #[.slice (some ⟨b, off, none⟩) n cap] w fun e w'' => e = .returned (.bool true) ∧ w = w'' := by rw [← hf]; exact fits_any _ n cap ss w (by omega) ⟨hl, .inr ⟨b, off, rfl, hlt, hc⟩⟩
  have HL := Lib.hid hl
  have HC := Lib.hid hc
  have HSS := Lib.hid hss
  clear hl hc hf hss
  go_enter Try.func7, Try.ntmps7
  go_wp2_with (go_at_call 9; refine C9.mono ?_; rintro e w1 ⟨rfl, rfl⟩)
  clear C9
  go_loop [3, 15] (fun t i => ∃ (k : Nat) (T : ByteArray), k ≤ n ∧ i = .int .i64 k ∧ t = .string T ∧ T.size ≤ 30 * k ∧ Hid (20 < n → T.size = 0) ∧ Hid (Ok T)) (fun _ i => n - (intOf i).toNat)
  case atStart => exact ⟨0, ⟨#[]⟩, Nat.zero_le _, rfl, rfl, Nat.zero_le _, fun _ => rfl, ok_nil⟩
  case round =>
    obtain ⟨k, T, hk, rfl, rfl, hTk, HT0, HO⟩ := hrel
    by_cases hkn : k < n
    · have hks : k < ss.length := by rw [HL.out]; exact hkn
      obtain ⟨p, hp⟩ : ∃ p, p = ss[k] := ⟨_, rfl⟩
      have hcell : w.cell? ⟨b, off + k, none⟩ = some (.string p) := by rw [hp]; exact HC.out k hks
      have hpz : p.size ≤ 9223372036854775807 := by rw [hp]; exact HSS.out _ (List.getElem_mem hks)
      clear hp hks
      go_wp2_with fail
      go_loop [21] (fun j => ∃ m : Nat, m ≤ p.size ∧ j = .int .i64 m ∧ Hid (0 < m → p.size ≤ 30 ∧ n ≤ 20) ∧ Hid (∀ q (hq : q < p.size), q < m → (p[q]'hq).toNat ≠ 92)) (fun j => p.size - (intOf j).toNat)
      case atStart => exact ⟨0, Nat.zero_le _, rfl, fun h => absurd h (by omega), fun _ _ h => absurd h (by omega)⟩
      case round =>
        obtain ⟨m, hm, rfl, HM, HB⟩ := hrel
        by_cases hmp : m < p.size
        · obtain ⟨x, hx⟩ : ∃ x, (p[m]'hmp).toNat = x := ⟨_, rfl⟩
          have HX := Lib.hid hx
          by_cases h32 : x < 32
          · have d1 : decide ((x : Int) < 32) = true := by simp; omega
            go_wp2
            go_ret
            exact ⟨rfl, Below.refl _ _⟩
          · by_cases h126 : 126 < x
            · have d1 : decide ((x : Int) < 32) = false := by simp; omega
              have d2 : decide ((126 : Int) < (x : Int)) = true := by simp; omega
              go_wp2
              go_ret
              exact ⟨rfl, Below.refl _ _⟩
            · by_cases h92 : x = 92
              · have d1 : decide ((x : Int) < 32) = false := by simp; omega
                have d2 : decide ((126 : Int) < (x : Int)) = false := by simp; omega
                have d3 : ((x : Int) == 92) = true := by rw [h92]; rfl
                clear h92
                go_wp2
                go_ret
                exact ⟨rfl, Below.refl _ _⟩
              · have H92 := Lib.hid h92
                by_cases h30 : p.size ≤ 30
                · by_cases h20 : n ≤ 20
                  · have d1 : decide ((x : Int) < 32) = false := by simp; omega
                    have d2 : decide ((126 : Int) < (x : Int)) = false := by simp; omega
                    have d3 : ((x : Int) == 92) = false := by simp; omega
                    have d4 : decide ((30 : Int) < (p.size : Int)) = false := by simp; omega
                    have d5 : decide ((20 : Int) < (n : Int)) = false := by simp; omega
                    clear h92
                    clear HM
                    go_wp2
                    go_round
                    case rel =>
                      refine ⟨m + 1, by omega, by go_num, fun _ => ⟨h30, h20⟩, fun q hq hqm => ?_⟩
                      by_cases hqm' : q < m
                      · exact HB.out q hq hqm'
                      · obtain rfl : q = m := by omega
                        rw [HX.out]; exact H92.out
                    case measure => simp [intOf]; omega
                  · have d1 : decide ((x : Int) < 32) = false := by simp; omega
                    have d2 : decide ((126 : Int) < (x : Int)) = false := by simp; omega
                    have d3 : ((x : Int) == 92) = false := by simp; omega
                    have d4 : decide ((30 : Int) < (p.size : Int)) = false := by simp; omega
                    have d5 : decide ((20 : Int) < (n : Int)) = true := by simp; omega
                    clear h92
                    go_wp2
                    go_ret
                    exact ⟨rfl, Below.refl _ _⟩
                · have d1 : decide ((x : Int) < 32) = false := by simp; omega
                  have d2 : decide ((126 : Int) < (x : Int)) = false := by simp; omega
                  have d3 : ((x : Int) == 92) = false := by simp; omega
                  have d4 : decide ((30 : Int) < (p.size : Int)) = true := by simp; omega
                  clear h92
                  go_wp2
                  go_ret
                  exact ⟨rfl, Below.refl _ _⟩
        · have HP := Lib.hid (fun q (hq : q < p.size) => HB.out q hq (by omega))
          have HM' := Lib.hid (fun (h : 0 < p.size) => HM.out (by omega))
          have hp30 : p.size ≤ 30 := by
            by_cases h : 0 < p.size
            · exact (HM'.out h).1
            · omega
          have hT6 : T.size ≤ 600 := by
            by_cases h20 : n ≤ 20
            · omega
            · have := HT0.out (by omega); omega
          clear HM HB
          go_wp2
          go_round
          case rel =>
            refine ⟨k + 1, T ++ p, by omega, by go_num, rfl, by rw [ByteArray.size_append]; omega, fun h20 => ?_, ok_app HO.out HP.out⟩
            have h1 := HT0.out h20
            by_cases h : 0 < p.size
            · have := (HM'.out h).2; omega
            · rw [ByteArray.size_append]; omega
          case measure => simp [intOf]; omega
    · have hT6 : T.size ≤ 600 := by
        by_cases h20 : n ≤ 20
        · omega
        · have := HT0.out (by omega); omega
      obtain ⟨E, hE⟩ : ∃ E, E = escS T := ⟨_, rfl⟩
      have CE := Lib.hid (closed_any T w (by omega))
      rw [← hE] at CE
      have HEZ : E.size ≤ 1200 := by rw [hE]; have := escS_size T; omega
      have HNT := Lib.hid (fun k (hk : k + 7 ≤ E.size) => show ((lowS (E.extract k (k + 7))).toList == [60, 47, 115, 116, 121, 108, 101]) = false by subst hE; exact no_tag T k hk)
      have HPE := Lib.hid (show plainL E E.size = T.data.toList by rw [hE]; exact plain_end HO.out)
      clear hE
      go_wp2_with (go_at_call 15; refine CE.out.mono ?_; rintro e w1 ⟨rfl, hb1⟩)
      clear CE
      go_loopw [8, 59] (fun t i wr => ∃ (k : Nat) (Q : ByteArray), k ≤ E.size ∧ i = .int .i64 k ∧ t = .string Q ∧ Q.size ≤ k ∧ Hid (Q.data.toList = plainL E k) ∧ Below w.heap.size w wr) (fun _ i _ => E.size - (intOf i).toNat)
      case atStart => exact ⟨0, ⟨#[]⟩, Nat.zero_le _, rfl, rfl, Nat.le_refl _, rfl, hb1⟩
      case round =>
        obtain ⟨k, Q, hk, rfl, rfl, hQ, HQ, hbw⟩ := hrel
        by_cases hkE : k < E.size
        · obtain ⟨x, hx⟩ : ∃ x, (E[k]'hkE).toNat = x := ⟨_, rfl⟩
          by_cases h92 : x = 92
          · have t1 : ((x : Int) == 92) = true := by rw [h92]; rfl
            have HS := Lib.hid (plain_skip hkE (by rw [hx]; exact h92))
            clear h92
            go_wp2
            go_roundw
            case rel => exact ⟨k + 1, Q, by omega, by go_num, rfl, by omega, by rw [HS.out]; exact HQ, hbw⟩
            case measure => simp [intOf]; omega
          · have t1 : ((x : Int) == 92) = false := by simp; omega
            have HS := Lib.hid (plain_step hkE (by rw [hx]; exact h92))
            have HZ := size_extract_one hkE
            have HZ1 : (E.extract k (k + 1)).size ≤ 1 := by omega
            clear h92 HZ
            by_cases h7 : k + 7 ≤ E.size
            · have t2 : decide ((k : Int) + 7 ≤ (E.size : Int)) = true := by simp; omega
              have t3 := HNT.out k h7
              have CL := lower_any (E.extract k (k + 7)) wr (by rw [ByteArray.size_extract]; omega)
              go_wp2_with (go_at_call 16; refine CL.mono ?_; rintro e w2 ⟨rfl, hb2⟩)
              go_roundw
              case rel => exact ⟨k + 1, _, by omega, by go_num, rfl, by rw [ByteArray.size_append]; omega, Lib.hid (by rw [HS.out, ← HQ.out]; simp), hbw.trans (hb2.mono hbw.size)⟩
              case measure => simp [intOf]; omega
            · have t2 : decide ((k : Int) + 7 ≤ (E.size : Int)) = false := by simp; omega
              go_wp2
              go_roundw
              case rel => exact ⟨k + 1, _, by omega, by go_num, rfl, by rw [ByteArray.size_append]; omega, Lib.hid (by rw [HS.out, ← HQ.out]; simp), hbw⟩
              case measure => simp [intOf]; omega
        · obtain rfl : k = E.size := by omega
          have hQT : Q = T := ext_list (by rw [HQ.out, HPE.out])
          subst hQT
          go_wp2_with (go_at_call 15; refine (closed_big _).mono ?_; rintro e w2 ⟨rfl, hb2⟩)
          go_ret
          exact ⟨by first | rfl | simp, hbw.trans (hb2.mono hbw.size)⟩

theorem walk (a : Option Addr) (n cap : Nat) (ss : List ByteArray) (w : World) (hS : Strs w a n ss) (hss : ∀ s ∈ ss, s.size ≤ maxLen) (hn : n ≤ maxLen) :
    Calls Try.prog 7 #[.slice a n cap] w fun e w' => e = .returned (.bool true) ∧ Below w.heap.size w w' := by
  unfold maxLen at *
  cases hf : fitsB ss with
  | false => exact e_parts a n cap ss w hS hss (by omega) hf
  | true =>
    obtain ⟨hl, h | ⟨b, off, rfl, hlt, hc⟩⟩ := hS
    · subst h
      obtain rfl : n = 0 := by simpa using hl.symm
      exact no_parts a cap w
    · exact some_parts b off n cap ss w hl hlt hc hss hn hf

theorem own : ownKnob Try.prog.godebug = none := by kernel_rfl
theorem laidOut : laidOutB Try.prog = true := by kernel_rfl
set_option maxRecDepth 100000 in
theorem lifted (os : Os) (started : os.Started) (H : Type) (enc : TypeId × Value → H) :
    ReturnsInHanded {} Try.checked os 7 .any (Rows.fnClosedSpec.pre6 enc Try.prog Try.f7 Rows.fnClosedRow.domain false) (Rows.fnClosedSpec.post enc Try.prog Try.f7 false true false false) := by
  refine returnsInHanded_of_change (C := Try.checked) own started (by kernel_rfl) Try.func7
    (ChangeSpec.witness6 (enc := enc) (C := Try.checked) false ⟨#[], #[.slice none 0 0], []⟩ 8 (by kernel_rfl) (by kernel_rfl) (by kernel_rfl) (by kernel_rfl)) ?_
  intro W base args ds gs before hval0 hW hcnd _
  have hval : ∀ (j : Nat) t v, Try.f7.params[j]? = some t → args[j]? = some v → Value.okWide Try.prog W .any base t v := hval0
  have hW' := hW
  obtain ⟨p, q, hA0, hV, rfl, hfz, hnd⟩ := hW
  have hA : DataW.TrodAll enc Try.prog W 0 (fun _ => true) true Try.f7.params.toList args.toList ds p := hA0
  rw [Try.params7] at hA hval
  obtain ⟨v0, vs0, d0, ds0, p0, q0, hargs, rfl, rfl, h0, r0⟩ := trodAll_cons hA
  obtain ⟨rfl, rfl, rfl⟩ := trodAll_nil r0
  obtain rfl : args = #[v0] := by cases args; simp_all
  obtain ⟨rfl, rfl⟩ := trodVars_none hV
  have k0 := h0
  have lt0 : ∀ x ∈ p0, x.block < W.heap.size := by obtain ⟨m, hm⟩ := k0; exact DataW.trod_lt m _ _ _ hm
  obtain ⟨a0, len0, cap0, rfl⟩ := okWide_slice Try.underlying22 (hval 0 22 v0 rfl rfl)
  obtain ⟨z0, w0, u0, n0⟩ : ∃ ss, Strs W a0 len0 ss ∧ (∀ s ∈ ss, s.size ≤ maxLen) ∧ len0 ≤ maxLen := by
    obtain ⟨fuel, hf⟩ := h0
    rcases open_strings Try.underlying22 Try.underlying9 (by kernel_rfl) hf with ⟨hcs, _⟩ | ⟨x, l, c, zs, hcs, _, hl, hm, hz, _, hcell, hwz⟩
    · simp [Value.cells] at hcs
      obtain ⟨rfl, rfl, rfl⟩ := hcs
      exact ⟨[], ⟨rfl, .inl rfl⟩, by simp, Nat.zero_le _⟩
    · simp [Value.cells] at hcs
      obtain ⟨rfl, rfl, rfl⟩ := hcs
      exact ⟨zs.take _, strs_of (by simp at hz; omega) hcell, fun s hs => hwz s (List.mem_of_mem_take hs), by omega⟩
  clear hA0 hval0
  refine (walk a0 len0 cap0 z0 W w0 u0 n0).mono fun e W' ⟨he, bel⟩ => ?_
  subst he
  exact ⟨_, rfl, _, _, _, [], _, [], hW', trodAll_mk1 (shut_bool Try.underlying4 _), (trodAll_cons_mk (Below.trod laidOut (by kernel_rfl) (of_decide_eq_true (by kernel_rfl)) k0 bel lt0) trodAll_mk0), rfl, bel.frame _, fun h => by cases h⟩

theorem over : Rows.fnClosedRow.holds Try.pinned (OpenSpec.ofChange Rows.fnClosedSpec) :=
  OpenClaim.holds_of_wide 7 Try.f7 rfl rfl rfl rfl rfl rfl rfl ⟨rfl, rfl, rfl, rfl, rfl⟩ rfl rfl rfl rfl rfl (by kernel_rfl) Try.func7 (by kernel_rfl)
    (of_decide_eq_true (by kernel_rfl)) (by unfold Func.isWrapper; first | (rw [if_pos (by decide +kernel)]; kernel_rfl) | (rw [if_neg (by decide +kernel)]; exact ⟨rfl, rfl⟩))
    (fun os started H enc _ => lifted os started H enc)
theorem proved : Rows.FnClosedSaid := over
#print axioms proved

end Go.Proofs.Ytfpfpdjnmfiffaa.fnClosed
