/- internalQuote: a text is quoted, sign by sign. -/
import Derived.Test.YtmgjioffppphbaaQuoK
namespace Go.Proofs.Ytmgjioffppphbaa
open Go.RowKit
set_option linter.unusedVariables false
set_option linter.unusedSimpArgs false
def QuoTold (s : ByteArray) (a : Bool) (w : World) (e : Ending) (w' : World) : Prop :=
  ∃ g cap, e = .returned (.slice (some ⟨g, 0, none⟩) ((escFrom s a 0).length + 2) cap) ∧ w'.ownsRow w.heap.size 5 1 (.slice (some ⟨g, 0, none⟩) ((escFrom s a 0).length + 2) cap) ((escFrom s a 0).length + 2) (numCells (34 :: (escFrom s a 0 ++ [34]))) ∧ Below w.heap.size w w'
set_option maxRecDepth 1000000 in
set_option maxHeartbeats 16000000 in
theorem quote_any (s : ByteArray) (a : Bool) (w : World) (hg : Good s 0) (hs : s.size ≤ 300) : Calls Try.prog 10 #[.string s, .bool a, .int .u8 34] w (QuoTold s a w) := by
  obtain ⟨i0, hi0, hz0, hz1, hz2⟩ := info_parts infoU8
  go_enter Try.func10, Try.ntmps10
  go_wp2_with fail
  go_loopw [7] (fun ev wr => ∃ (pos est : Nat), pos ≤ s.size ∧ wr.heap[w.heap.size]? = some (.stringIter s pos) ∧ ev = .int .i64 est ∧ est ≤ 2 + 12 * pos ∧ Hid (Good s pos) ∧ Below w.heap.size w wr) (fun _ wr => s.size - wr.iterPos w.heap.size)
  case atStart => exact ⟨0, 2, Nat.zero_le _, World.iter_heap w s 0, rfl, by omega, Lib.hid hg, (Below.refl _ w).alloc (Nat.le_refl _) _⟩
  case round =>
    obtain ⟨pos, est, hp, hit, rfl, hest, HG, hb⟩ := hrel
    have hsz : w.heap.size < wr.heap.size := (Array.getElem?_eq_some_iff.1 hit).1
    by_cases hlt : pos < s.size
    · obtain ⟨hS, hG2⟩ := good_sign HG.out hlt
      obtain ⟨r, hr⟩ : ∃ r, r = (Utf8.decode s pos).1 := ⟨_, rfl⟩
      obtain ⟨d, hd⟩ : ∃ d, d = (Utf8.decode s pos).2 := ⟨_, rfl⟩
      rw [← hr, ← hd] at hS
      rw [← hd] at hG2
      have hnx : ∀ ty, (Instr.next (.pointer (some ⟨w.heap.size, 0, none⟩)) true ty).run Try.prog wr = .ok (.tuple #[.bool true, .int .i64 pos, .int .i32 r]) (wr.iterAt w.heap.size s (pos + d)) := fun ty => by
        rw [hr, hd]; exact Lib.run_next_any_at wr w.heap.size s pos ty hit hlt
      have hit2 := Lib.iterAt_heap wr w.heap.size s pos (pos + d) hit
      have hb2 := Lib.below_iterAt hb (k := w.heap.size) (Nat.le_refl _) s (pos + d)
      generalize wr.iterAt w.heap.size s (pos + d) = W at *
      have hpp : wr.iterPos w.heap.size = pos := by simp only [World.iterPos, hit]
      have C11 := Lib.hid (canP_any r a W hS.val)
      have C12 := Lib.hid (runeLen_any r W hS.val)
      have hin := hS.inn
      have hwd := hS.wide
      have HI := Lib.hid hit2
      have HB := Lib.hid hb2
      have HG2 := Lib.hid hG2
      have HP := Lib.hid hpp
      clear hit hit2 hb2 hb hG2 HG hr hd hpp
      cases hc : canP r a with
      | true =>
        rw [hc] at C11
        clear hc hS
        go_wp2_with (first | (go_at_call 11; refine C11.out.mono ?_; rintro e w' ⟨rfl, rfl⟩) | (go_at_call 12; refine C12.out.mono ?_; rintro e w' ⟨⟨k, hk4, rfl⟩, rfl⟩))
        go_roundw
        case rel => exact ⟨pos + d, est + k, hin, HI.out, by go_num, by omega, HG2, HB.out⟩
        case measure => rw [HP.out, iter_at HI.out]; omega
      | false =>
        rw [hc] at C11
        rcases (show r = 8 ∨ r = 12 ∨ r = 10 ∨ r = 13 ∨ r = 9 ∨ r = 92 ∨ r = 34 ∨ r = 39 ∨ (r ≠ 8 ∧ r ≠ 12 ∧ r ≠ 10 ∧ r ≠ 13 ∧ r ≠ 9 ∧ r ≠ 92 ∧ r ≠ 34 ∧ r ≠ 39) by omega) with rfl | rfl | rfl | rfl | rfl | rfl | rfl | rfl | hrest
        · clear hc hS
          go_wp2_with (go_at_call 11; refine C11.out.mono ?_; rintro e w' ⟨rfl, rfl⟩)
          go_roundw
          case rel => exact ⟨pos + d, est + 2, hin, HI.out, by go_num, by omega, HG2, HB.out⟩
          case measure => rw [HP.out, iter_at HI.out]; omega
        · clear hc hS
          go_wp2_with (go_at_call 11; refine C11.out.mono ?_; rintro e w' ⟨rfl, rfl⟩)
          go_roundw
          case rel => exact ⟨pos + d, est + 2, hin, HI.out, by go_num, by omega, HG2, HB.out⟩
          case measure => rw [HP.out, iter_at HI.out]; omega
        · clear hc hS
          go_wp2_with (go_at_call 11; refine C11.out.mono ?_; rintro e w' ⟨rfl, rfl⟩)
          go_roundw
          case rel => exact ⟨pos + d, est + 2, hin, HI.out, by go_num, by omega, HG2, HB.out⟩
          case measure => rw [HP.out, iter_at HI.out]; omega
        · clear hc hS
          go_wp2_with (go_at_call 11; refine C11.out.mono ?_; rintro e w' ⟨rfl, rfl⟩)
          go_roundw
          case rel => exact ⟨pos + d, est + 2, hin, HI.out, by go_num, by omega, HG2, HB.out⟩
          case measure => rw [HP.out, iter_at HI.out]; omega
        · clear hc hS
          go_wp2_with (go_at_call 11; refine C11.out.mono ?_; rintro e w' ⟨rfl, rfl⟩)
          go_roundw
          case rel => exact ⟨pos + d, est + 2, hin, HI.out, by go_num, by omega, HG2, HB.out⟩
          case measure => rw [HP.out, iter_at HI.out]; omega
        · clear hc hS
          go_wp2_with (go_at_call 11; refine C11.out.mono ?_; rintro e w' ⟨rfl, rfl⟩)
          go_roundw
          case rel => exact ⟨pos + d, est + 2, hin, HI.out, by go_num, by omega, HG2, HB.out⟩
          case measure => rw [HP.out, iter_at HI.out]; omega
        · clear hc hS
          go_wp2_with (go_at_call 11; refine C11.out.mono ?_; rintro e w' ⟨rfl, rfl⟩)
          go_roundw
          case rel => exact ⟨pos + d, est + 2, hin, HI.out, by go_num, by omega, HG2, HB.out⟩
          case measure => rw [HP.out, iter_at HI.out]; omega
        · exact absurd hc (by cases a <;> decide)
        · have f1 : ((r : Int) == 8) = false := by simp; omega
          have f2 : ((r : Int) == 12) = false := by simp; omega
          have f3 : ((r : Int) == 10) = false := by simp; omega
          have f4 : ((r : Int) == 13) = false := by simp; omega
          have f5 : ((r : Int) == 9) = false := by simp; omega
          have f6 : ((r : Int) == 92) = false := by simp; omega
          have f7 : ((r : Int) == 34) = false := by simp; omega
          have f8 : ((r : Int) == 39) = false := by simp; omega
          clear hrest
          by_cases hbig : r ≤ 65535
          · have f9 : decide ((r : Int) ≤ 65535) = true := by simp; omega
            clear hbig
            clear hc hS
            go_wp2_with (go_at_call 11; refine C11.out.mono ?_; rintro e w' ⟨rfl, rfl⟩)
            go_roundw
            case rel => exact ⟨pos + d, est + 6, hin, HI.out, by go_num, by omega, HG2, HB.out⟩
            case measure => rw [HP.out, iter_at HI.out]; omega
          · have f9 : decide ((r : Int) ≤ 65535) = false := by simp; omega
            clear hbig
            clear hc hS
            go_wp2_with (go_at_call 11; refine C11.out.mono ?_; rintro e w' ⟨rfl, rfl⟩)
            go_roundw
            case rel => exact ⟨pos + d, est + 12, hin, HI.out, by go_num, by omega, HG2, HB.out⟩
            case measure => rw [HP.out, iter_at HI.out]; omega
    · have hnx : ∀ ty, (Instr.next (.pointer (some ⟨w.heap.size, 0, none⟩)) true ty).run Try.prog wr = _ := fun ty => Lib.run_next_end_at wr w.heap.size s pos ty hit hlt
      have HB := Lib.hid hb
      clear HG hb hit
      go_wp2_with (first
        | (refine wpList_make_own _ rfl (.const (.int .i64 0)) (.tmp 58) 31 rfl w.heap.size 5 i0 (.int .u8 0) 1 Try.underlying31 hi0 hz0 hz1 .i64 .i64 _ est rfl rfl rfl (by rw [hz2]; omega) (by unfold maxLen; omega) (by omega) ?_; intro w1 hown1 hg1; have HO1 := Lib.hid hown1; have HB1 := Lib.hid (HB.out.grown hg1 (by omega) (fun k h => by cases h)); have hs1 : w.heap.size < w1.heap.size := Nat.lt_of_lt_of_le hsz hg1.size; clear hown1 hg1)
        | (at_builtin; refine wpList_append_own _ rfl (.tmp 62) (.tmp 64) 31 rfl w.heap.size 5 i0 (.int .u8 0) 1 1 Try.underlying31 hi0 hz0 hz1 hz2 rfl (by decide) _ 0 [] rfl (HO1.out.alloc _) ⟨w1.heap.size, 0, none⟩ 1 1 [.int .u8 34] rfl rfl (one_at' _ _ _ _ rfl) (by simp [Value.oneCell']) (by unfold maxLen; omega) (by omega) (by simp; omega) ?_; intro v2 w2 hown2 hg2 _; have HO2 : Hid (Bytes w.heap.size [] v2 w2) := Lib.hid hown2; have HB2 := Lib.hid ((HB1.out.alloc (Nat.le_of_lt hs1) _).grown hg2 (by simp; omega) (fun k hk => (HO1.out.lt k hk).1)); clear hown2 hg2))
      clear hnx hest hp HO1 HB1 hs1 hsz HB
      refine loop2 _ s a w2 w.heap.size _ _ _ _ _ _ _ _ _ _ _ _ _ _ _ _ _ _ _ _ _ _ _ _ _ _ _ _ _ _ _ _ _ _ _ _ _ _ _ _ _ _ _ _ _ _ _ _ _ _ _ _ _ _ _ _ _ _ _ _ _ _ _ _ _ _ _ _ _ _ _ _ _ _ _ _ _ _ _ _ _ _ _ _ _ _ _ _ _ _ _ _ _ _ _ _ _ _ _ _ _ _ _ _ _ _ _ _ _ _ _ _ _ _ _ _ _ _ _ _ _ _ _ _ _ _ _ _ _ _ _ _ _ _ _ _ _ _ _ _ _ _ _ _ _ _ _ _ _ _ _ _ _ _ _ _ _ _ _ _ _ _ _ _ _ _ _ _ _ _ _ _ _ _ _ _ _ _ _ _ _ _ _ _ _ _ _ _ _ _ _ _ _ _ _ _ _ _ _ _ _ _ _ _ _ _ _ _ _ _ _ _ _ _ _ _ _ _ _ _ _ _ _ _ _ _ HO2 HB2.out.size hs hg ?_
      intro v3 w3 x13 x14 x15 x16 x17 x66 x67 x68 x69 x70 x71 x72 x73 x74 x75 x76 x77 x78 x79 x80 x81 x82 x83 x84 x85 x86 x87 x88 x89 x90 x91 x92 x93 x94 x95 x96 x97 x98 x99 x100 x101 x102 x103 x104 x105 x106 x107 x108 x109 x110 x111 x112 x113 x114 x115 x116 x117 x118 x119 x120 x121 x122 x123 x124 x125 x126 x127 x128 x129 x130 x131 x132 x133 x134 x135 x136 x137 x138 x139 x140 x141 x142 x143 x144 x145 x146 x147 x148 x149 x150 x151 x152 x153 x154 x155 x156 x157 x158 x159 x160 x161 x162 x163 x164 x165 x166 x167 x168 x169 x170 x171 x172 x173 x174 x175 x176 x177 x178 x179 x180 x181 x182 x183 x184 x185 x186 x187 x188 x189 x190 x191 x192 x193 x194 x195 x196 x197 x198 x199 x200 x201 x202 x203 x204 x205 x206 x207 x208 x209 x210 x211 x212 x213 x214 x215 x216 x217 x218 x219 x220 x221 x222 x223 x224 x225 x226 HO3 HB3 hB3
      have HBL := Lib.hid (HB3.out w HB2.out)
      have hal := escFrom_len (a := a) s.size 0 (by omega) (Nat.zero_le _) hg
      go_wp2_with (at_builtin; refine wpList_append_own _ rfl (.tmp 227) (.tmp 229) 31 rfl w.heap.size 5 i0 (.int .u8 0) 1 1 Try.underlying31 hi0 hz0 hz1 hz2 rfl (by decide) _ ((escFrom s a 0).length + 1) (numCells (34 :: escFrom s a 0)) rfl (HO3.out.alloc _) ⟨w3.heap.size, 0, none⟩ 1 1 [.int .u8 34] rfl rfl (one_at' _ _ _ _ rfl) (by simp [Value.oneCell']) (by unfold maxLen; omega) (by omega) (by simp; omega) ?_; intro v4 w4 hown4 hg4 _; obtain ⟨g, cap, rfl, -, -⟩ := hown4.form (by omega); have HB5 := Lib.hid ((HBL.out.alloc hB3 _).grown hg4 (by simp; omega) (fun k hk => (HO3.out.lt k hk).1)); have HO5 := Lib.hid (Bytes.app (l := [34]) hown4 rfl); clear hown4 hg4)
      go_ret
      refine ⟨g, cap, rfl, ?_, HB5.out⟩
      have := HO5.out
      unfold Bytes at this
      rw [List.length_append] at this
      exact this
end Go.Proofs.Ytmgjioffppphbaa
