/- spec.Place: the place behind a text. -/
import Derived.Test.YtnmielbjdadggaaDoorPlaceP
import Derived.Test.YtnmielbjdadggaaDoorRows
import Derived.WalkKit
import Derived.WalkSpells
import Derived.WalkLawsBesides
import Derived.LoopTactic
import Derived.Lib.Hide
import Derived.Lib.Strings
import Derived.Laws.BitsAllLaws
import Derived.Lib.OthersKept
import Derived.OneCell
import Derived.WalkSmall
namespace Go.Proofs.YtnmielbjdadggaaDoor
open Go.RowKit
set_option linter.unusedVariables false
set_option linter.unusedSimpArgs false
set_option maxRecDepth 100000 in
set_option maxHeartbeats 4000000 in
theorem place_any (s : ByteArray) (l0 c0 : Nat) (w : World) (hs : s.size ≤ 1000) (hl : l0 ≤ 10000) (hc : c0 ≤ 10000) :
    Calls Tryd.prog 5 #[.int .i64 l0, .int .i64 c0, .string s] w fun e w' => e = .returned (.tuple #[.int .i64 (place s l0 c0).1, .int .i64 (place s l0 c0).2]) ∧ Below w.heap.size w w' := by
  have hlen := runes_len s s.size 0 (by omega)
  have htop := runes_top s s.size 0 (by omega)
  have hrf := runesFrom_eq s s.size 0 #[] (by omega)
  simp only [Array.empty_append] at hrf
  unfold place
  generalize hL : runesL s 0 = L at *
  have hsz : (Conv.runesFrom s s.size 0 #[]).size = L.length := by rw [hrf]; simp
  have hcv : ∀ W : World, ∃ cap W', (convert 9 33 (.string s)).run Tryd.prog W = .ok (.slice (some ⟨W.heap.size, 0, none⟩) L.length cap) W' ∧ L.length ≤ cap ∧ Below W.heap.size W W' ∧ ∀ k (h : k < L.length), W'.cell? ⟨W.heap.size, 0 + k, none⟩ = some (.int .i32 (L[k] : Nat)) := by
    intro W
    refine ⟨_, _, (run_runes_of_string W 9 33 21 s Tryd.underlying9 Tryd.underlying33 Tryd.underlying21 (by omega)).trans (by rw [hsz]), ?_, ?_, ?_⟩
    · exact grownCap_ge _ _ _ _
    · exact ((Below.refl _ W).drew).alloc (Nat.le_refl _) _
    · intro k hk
      have hk2 : k < L.length := hk
      have e : ((Conv.runesFrom s s.size 0 #[]) ++ Array.replicate (grownCap W L.length 0 21 - L.length) (Value.int IntKind.i32 0))[k]? = some (.int .i32 (L[k] : Nat)) := by
        rw [Array.getElem?_append_left (by rw [hsz]; exact hk), hrf]
        simp [List.getElem?_eq_getElem hk]
      have := World.cell?_alloc_mark W.drew ((Conv.runesFrom s s.size 0 #[]) ++ Array.replicate (grownCap W L.length 0 21 - L.length) (Value.int IntKind.i32 0)) 21 (0, 0) k
      rw [Nat.zero_add]
      exact this.trans e
  clear hrf hsz hL
  obtain ⟨cap, W, hrun, hcap, hbel, hcell⟩ := hcv w
  clear hcv
  have HC : Hid (∀ (k r : Nat), L[k]? = some r → W.cell? ⟨w.heap.size, k, none⟩ = some (.int .i32 r)) := Lib.hid fun k r h => by
    obtain ⟨h1, h2⟩ := List.getElem?_eq_some_iff.1 h
    rw [← h2, ← hcell k h1, Nat.zero_add]
  have HT : Hid (∀ (k r : Nat), L[k]? = some r → r ≤ 1114111) := Lib.hid fun k r h => htop r (List.mem_of_getElem? h)
  have HB := Lib.hid hbel
  have hN : L.length ≤ 1000 := by omega
  clear hcell htop hbel hlen hs
  obtain ⟨N, hN2⟩ : ∃ N, L.length = N := ⟨_, rfl⟩
  rw [hN2] at hrun hcap hN
  have HN := Lib.hid hN2
  clear hN2
  go_enter Tryd.func5, Tryd.ntmps5
  go_wp2
  go_loop [0, 1, 15] (fun tl tc ti => ∃ k l c : Nat, k ≤ N ∧ tl = .int .i64 l ∧ tc = .int .i64 c ∧ ti = .int .i64 k ∧ l ≤ 10000 + k ∧ c ≤ 10000 + 2 * k ∧ Hid (placeL (L.drop k) l c = placeL L l0 c0)) (fun _ _ ti => N - (intOf ti).toNat)
  case atStart => exact ⟨0, l0, c0, Nat.zero_le _, rfl, rfl, rfl, by omega, by omega, Lib.hid rfl⟩
  case round =>
    obtain ⟨k, l, c, hk, rfl, rfl, rfl, hl1, hc1, HP⟩ := hrel
    by_cases hkn : k < N
    · obtain ⟨r, hr⟩ : ∃ r, L[k]? = some r := ⟨_, List.getElem?_eq_getElem (by rw [HN.out]; exact hkn)⟩
      have hdr : L.drop k = r :: L.drop (k + 1) := by
        obtain ⟨h1, h2⟩ := List.getElem?_eq_some_iff.1 hr
        rw [List.drop_eq_getElem_cons h1, h2]
      have hcell := HC.out k r hr
      have hr1 := HT.out k r hr
      by_cases hr13 : r = 13
      · subst hr13
        by_cases hk1 : k + 1 < N
        · obtain ⟨r', hr'⟩ : ∃ r', L[k + 1]? = some r' := ⟨_, List.getElem?_eq_getElem (by rw [HN.out]; exact hk1)⟩
          have hcell2 := HC.out (k + 1) r' hr'
          have hr2 := HT.out (k + 1) r' hr'
          by_cases h10 : r' = 10
          · have HP2 : Hid (placeL (L.drop (k + 1)) l (c + 1) = placeL L l0 c0) := Lib.hid (by rw [← HP.out, hdr, place_crlf (by rw [List.head?_drop, hr', h10])])
            subst h10
            clear hr hr' hdr HP
            go_wp2
            go_round
            case rel => exact ⟨k + 1, l, c + 1, by omega, by go_num, by go_num, by go_num, by omega, by omega, HP2⟩
            case measure => simp [intOf]; omega
          · have HP2 : Hid (placeL (L.drop (k + 1)) (l + 1) 0 = placeL L l0 c0) := Lib.hid (by rw [← HP.out, hdr, place_cr (by rw [List.head?_drop, hr']; simpa using h10)])
            have t1 : ((r' : Int) == 10) = false := by simp; omega
            clear hr hr' hdr HP
            go_wp2
            go_round
            case rel => exact ⟨k + 1, l + 1, 0, by omega, by go_num, by go_num, by go_num, by omega, by omega, HP2⟩
            case measure => simp [intOf]; omega
        · have HP2 : Hid (placeL (L.drop (k + 1)) (l + 1) 0 = placeL L l0 c0) := Lib.hid (by rw [← HP.out, hdr, place_cr (by rw [List.head?_drop, List.getElem?_eq_none (by rw [HN.out]; omega)]; simp)])
          clear hr hdr HP
          go_wp2
          go_round
          case rel => exact ⟨k + 1, l + 1, 0, by omega, by go_num, by go_num, by go_num, by omega, by omega, HP2⟩
          case measure => simp [intOf]; omega
      · have t13 : ((r : Int) == 13) = false := by simp; omega
        by_cases hle : lineEnd r
        · have HP2 : Hid (placeL (L.drop (k + 1)) (l + 1) 0 = placeL L l0 c0) := Lib.hid (by rw [← HP.out, hdr, place_line hr13 hle])
          clear hr hdr HP
          rcases hle with hle | hle | hle | hle
          · exact absurd hle hr13
          all_goals
            subst hle
            clear t13 hr13
            go_wp2
            go_round
            case rel => exact ⟨k + 1, l + 1, 0, by omega, by go_num, by go_num, by go_num, by omega, by omega, HP2⟩
            case measure => simp [intOf]; omega
        · have t10 : ((r : Int) == 10) = false := by unfold lineEnd at hle; simp; omega
          have t28 : ((r : Int) == 8232) = false := by unfold lineEnd at hle; simp; omega
          have t29 : ((r : Int) == 8233) = false := by unfold lineEnd at hle; simp; omega
          by_cases hbig : 65535 < r
          · have HP2 : Hid (placeL (L.drop (k + 1)) l (c + 2) = placeL L l0 c0) := Lib.hid (by rw [← HP.out, hdr, place_two hbig])
            have tb : decide ((65535 : Int) < (r : Int)) = true := by simp; omega
            clear hr hdr HP hle
            go_wp2
            go_round
            case rel => exact ⟨k + 1, l, c + 2, by omega, by go_num, by go_num, by go_num, by omega, by omega, HP2⟩
            case measure => simp [intOf]; omega
          · have HP2 : Hid (placeL (L.drop (k + 1)) l (c + 1) = placeL L l0 c0) := Lib.hid (by rw [← HP.out, hdr, place_one hbig hle])
            have tb : decide ((65535 : Int) < (r : Int)) = false := by simp; omega
            clear hr hdr HP hle
            go_wp2
            go_round
            case rel => exact ⟨k + 1, l, c + 1, by omega, by go_num, by go_num, by go_num, by omega, by omega, HP2⟩
            case measure => simp [intOf]; omega
    · obtain rfl : k = N := by omega
      go_wp2
      go_ret2
      have := HP.out
      rw [List.drop_of_length_le (by rw [HN.out]; omega)] at this
      rw [← this]
      exact ⟨rfl, HB.out⟩
end Go.Proofs.YtnmielbjdadggaaDoor
