/- What helpers.ParseGlobPattern tells of parts with a star between each two. -/
import Derived.Test.YtfpfpdjnmfiffaaGlobL
import Derived.Test.YtfpfpdjnmfiffaaPkg
import Derived.OwnWalk
import Derived.LoopN
import Derived.Laws.AppendOwn
namespace Go.Proofs.Ytfpfpdjnmfiffaa
open Go.RowKit
set_option linter.unusedVariables false

theorem infoGlob : (Try.prog.info? 76).map (fun i => (i.zero, i.size, i.bytes)) = some (some (.agg #[.string ByteArray.empty, .int .u8 0]), 2, 24) := by kernel_rfl

/-- A result that is a slice of two-cell elements of the call's own. -/
def RetOwn (B E : Nat) (w : World) (n : Nat) (cs : List Value) (e : Ending) (w' : World) : Prop := ∃ v, e = .returned v ∧ w'.ownsRow B E 2 v n cs ∧ Below B w w'
/-- The cells of parts of a pattern. -/
def gcells (l : List (ByteArray × Int)) : List Value := l.flatMap fun x => [.string x.1, .int .u8 x.2]
theorem gcells_snoc (l : List (ByteArray × Int)) (p : ByteArray) (k : Int) : gcells l ++ [.string p, .int .u8 k] = gcells (l ++ [(p, k)]) := by simp [gcells]
def lists (ps : List ByteArray) : List (List UInt8) := ps.map fun p => p.data.toList
/-- The parts that a pattern is cut into: a star behind each but the last. -/
def marked : List ByteArray → List (ByteArray × Int)
  | [] => []
  | [p] => [(p, 0)]
  | p :: q :: r => (p, 1) :: marked (q :: r)

structure Left (ps done rest : List ByteArray) (T : ByteArray) : Prop where
  all : done ++ rest = ps
  some_ : rest ≠ []
  text : T.data.toList = Glob.join (lists rest)
  inner : Glob.Inner (lists rest.tail)
  free : Glob.NoStar (lists rest)
  marks : marked ps = done.map (fun p => (p, (1 : Int))) ++ marked rest

theorem star_idx (s : ByteArray) (i : Int) (h : Lib.indexByte s.data.toList 42 = i) : ∀ w : World, Calls Try.prog 40 #[.string s, .int .u8 42] w fun e w' => e = .returned (.int .i64 i) ∧ w = w' := fun w => by
  refine (Try.strings_IndexByte s 42 w).mono ?_
  rintro e w' ⟨rfl, rfl⟩
  refine ⟨?_, rfl⟩
  rw [← h]; rfl
theorem two_new (w : World) (a b : Value) (t : TypeId) : ∀ j u, ([a, b] : List Value)[j]? = some u → (w.alloc (.cells #[a, b] t)).cell? ((⟨w.heap.size, 0, none⟩ : Addr).add j) = some u := by
  intro j u hj
  match j, hj with
  | 0, hj => simp at hj; subst hj; simp [Addr.add]
  | 1, hj => simp at hj; subst hj; simp [Addr.add]

set_option maxRecDepth 100000 in
set_option maxHeartbeats 4000000 in
theorem parse_any (ps : List ByteArray) (s : ByteArray) (w : World) (h : Left ps [] ps s) (hs : s.size ≤ 10000) (hn : ps.length ≤ 10000) :
    Calls Try.prog 32 #[.string s] w (RetOwn w.heap.size 76 w ps.length (gcells (marked ps))) := by
  obtain ⟨i0, hi, hz0, hz1, hz2⟩ := info_parts infoGlob
  have HN := Lib.hid h
  clear h
  go_enter Try.func32, Try.ntmps32
  go_wp2
  go_loopw [0, 2] (fun t v wr => ∃ (done rest : List ByteArray) (T : ByteArray), t = .string T ∧ T.size ≤ 10000 ∧ Hid (Left ps done rest T) ∧ Hid (wr.ownsRow w.heap.size 76 2 v done.length (gcells (done.map fun p => (p, 1)))) ∧ Below w.heap.size w wr) (fun t _ _ => match t with | .string T => T.size + 1 | _ => 0)
  case atStart => exact ⟨[], ps, s, rfl, hs, HN, World.ownsRow_nil _ _ _ _, Below.refl _ _⟩
  case round =>
    obtain ⟨done, rest, T, rfl, hT, HL, HO, hb⟩ := hrel
    have hdl : done.length < 10000 := by have := congrArg List.length HL.out.all; have h2 : 0 < rest.length := List.length_pos_iff.2 HL.out.some_; simp at this; omega
    match rest, HL with
    | [], HL => exact absurd rfl HL.out.some_
    | [p], HL =>
      have hp : T = p := ext_list HL.out.text
      subst hp
      have C := star_idx T (-1) (idx_none _ _ (HL.out.free T.data.toList (by simp [lists])))
      have HR := Lib.hid HL.out.marks
      have HA := Lib.hid HL.out.all
      clear HL
      go_wp2_with (first | (go_at_call 40; refine (C _).mono ?_; rintro e w1 ⟨rfl, rfl⟩) | (at_builtin; refine wpList_append_own _ rfl _ _ 72 rfl w.heap.size 76 i0 (.agg #[.string ByteArray.empty, .int .u8 0]) 2 24 Try.underlying72 hi hz0 hz1 hz2 rfl (by decide) _ _ _ rfl (HO.out.alloc _) ⟨wr.heap.size, 0, none⟩ 1 1 [.string T, .int .u8 0] rfl rfl (two_new _ _ _ _) (by simp [Value.oneCell']) (by unfold maxLen; omega) (by omega) (by have := hb.size; simp; omega) ?_))
      intro v' w2 hown hgrow _
      have HO2 := Lib.hid hown
      have hb2 := (hb.alloc hb.size _).grown hgrow (by have := hb.size; simp; omega) (fun k hk => (HO.out.lt k hk).1)
      clear hown hgrow
      go_wp2
      go_ret
      refine ⟨_, rfl, ?_, hb2⟩
      have h1 := HO2.out
      rw [gcells_snoc] at h1
      have e1 : done.length + 1 = ps.length := by rw [← HA.out]; simp
      have e2 : done.map (fun p => (p, (1 : Int))) ++ [(T, 0)] = marked ps := by rw [HR.out]; rfl
      rw [e1, e2] at h1
      exact h1
    | p :: q :: r, HL =>
      have hne : lists (q :: r) ≠ [] := by simp [lists]
      have hjoin : T.data.toList = p.data.toList ++ 42 :: Glob.join (lists (q :: r)) := by rw [HL.out.text]; exact Glob.join_cons _ _ hne
      have hp42 := HL.out.free p.data.toList (by simp [lists])
      have C := star_idx T p.size (by rw [hjoin, idx_at _ _ _ hp42, len_list])
      have hz : p.size + 1 ≤ T.size := by rw [← len_list T, ← len_list p, hjoin]; simp
      obtain ⟨U, hU⟩ : ∃ U, T.extract (p.size + 1) T.size = U := ⟨_, rfl⟩
      have hUl : U.data.toList = Glob.join (lists (q :: r)) := by
        rw [← hU, Lib.extract_to_end, hjoin, ← len_list p]
        simp [List.drop_append]
      have hUz : U.size + (p.size + 1) ≤ T.size := by rw [← hU, ByteArray.size_extract]; omega
      have hP : T.extract 0 p.size = p := ext_list (by rw [Lib.extract_data, hjoin, ← len_list p]; simp)
      have HL2 := Lib.hid (show Left ps (done ++ [p]) (q :: r) U from ⟨by rw [← HL.out.all]; simp, by simp, hUl, Glob.inner_tail HL.out.inner, fun x hx => HL.out.free x (by simp [lists] at hx ⊢; exact .inr hx), by rw [HL.out.marks]; simp [marked]⟩)
      have hstar : ∀ (h : p.size + 1 < T.size), (T[p.size + 1]'h).toNat ≠ 42 := fun h e => by
        have h1 := Glob.head_join (lists (q :: r)) HL.out.inner (fun x hx => HL.out.free x (by simp [lists] at hx ⊢; exact .inr hx))
        have h2 : T.data.toList[p.size + 1]? = some 42 := by
          rw [List.getElem?_eq_getElem (by simpa using h)]
          have : T.data.toList[p.size + 1]'(by simpa using h) = T[p.size + 1]'h := rfl
          rw [this]
          exact congrArg some (UInt8.toNat_inj.1 (by rw [e]; rfl))
        rw [hjoin, ← len_list p, List.getElem?_append_right (by omega)] at h2
        rw [show p.data.toList.length + 1 - p.data.toList.length = 1 by omega] at h2
        apply h1
        rw [List.head?_eq_getElem?]
        simpa using h2
      have HST := Lib.hid hstar
      clear hstar hjoin hUl hne hp42 HL
      by_cases hlt : p.size + 1 < T.size
      · obtain ⟨x, hx⟩ : ∃ x, (T[p.size + 1]'hlt).toNat = x := ⟨_, rfl⟩
        have t1 : ((x : Int) == 42) = false := by have := HST.out hlt; rw [hx] at this; simp; omega
        have t2 : decide ((p.size : Int) + 1 < (T.size : Int)) = true := by simp; omega
        go_wp2_with (first | (go_at_call 40; refine (C _).mono ?_; rintro e w1 ⟨rfl, rfl⟩) | fail)
        refine wp_loop_rounds 1 ?_
        rw [rounds_succ]
        go_wp2_with (at_builtin; refine wpList_append_own _ rfl _ _ 72 rfl w.heap.size 76 i0 (.agg #[.string ByteArray.empty, .int .u8 0]) 2 24 Try.underlying72 hi hz0 hz1 hz2 rfl (by decide) _ _ _ rfl (HO.out.alloc _) ⟨wr.heap.size, 0, none⟩ 1 1 [.string p, .int .u8 1] rfl rfl (two_new _ _ _ _) (by simp [Value.oneCell']) (by unfold maxLen; omega) (by omega) (by have := hb.size; simp; omega) ?_)
        intro v' w2 hown hgrow _
        have HO2 := Lib.hid hown
        have hb2 := (hb.alloc hb.size _).grown hgrow (by have := hb.size; simp; omega) (fun k hk => (HO.out.lt k hk).1)
        clear hown hgrow
        go_wp2
        go_roundw
        case rel =>
          refine ⟨done ++ [p], q :: r, U, rfl, by omega, HL2, ?_, hb2⟩
          have h1 := HO2.out
          rw [gcells_snoc] at h1
          unfold Hid
          rw [List.length_append, List.map_append]
          exact h1
        case measure => simp; omega
      · have t2 : decide ((p.size : Int) + 1 < (T.size : Int)) = false := by simp; omega
        go_wp2_with (first | (go_at_call 40; refine (C _).mono ?_; rintro e w1 ⟨rfl, rfl⟩) | fail)
        refine wp_loop_rounds 1 ?_
        rw [rounds_succ]
        go_wp2_with (at_builtin; refine wpList_append_own _ rfl _ _ 72 rfl w.heap.size 76 i0 (.agg #[.string ByteArray.empty, .int .u8 0]) 2 24 Try.underlying72 hi hz0 hz1 hz2 rfl (by decide) _ _ _ rfl (HO.out.alloc _) ⟨wr.heap.size, 0, none⟩ 1 1 [.string p, .int .u8 1] rfl rfl (two_new _ _ _ _) (by simp [Value.oneCell']) (by unfold maxLen; omega) (by omega) (by have := hb.size; simp; omega) ?_)
        intro v' w2 hown hgrow _
        have HO2 := Lib.hid hown
        have hb2 := (hb.alloc hb.size _).grown hgrow (by have := hb.size; simp; omega) (fun k hk => (HO.out.lt k hk).1)
        clear hown hgrow
        go_wp2
        go_roundw
        case rel =>
          refine ⟨done ++ [p], q :: r, U, rfl, by omega, HL2, ?_, hb2⟩
          have h1 := HO2.out
          rw [gcells_snoc] at h1
          unfold Hid
          rw [List.length_append, List.map_append]
          exact h1
        case measure => simp; omega

/-- .. the slice's form written out. -/
def RetSl (B E : Nat) (w : World) (n : Nat) (cs : List Value) (e : Ending) (w' : World) : Prop := ∃ g cap, e = .returned (.slice (some ⟨g, 0, none⟩) n cap) ∧ w'.ownsRow B E 2 (.slice (some ⟨g, 0, none⟩) n cap) n cs ∧ g < w'.heap.size ∧ Below B w w'
theorem RetOwn.sl {B E n : Nat} {w : World} {cs : List Value} (hn : 0 < n) {e : Ending} {w' : World} (h : RetOwn B E w n cs e w') : RetSl B E w n cs e w' := by
  obtain ⟨v, rfl, hown, hb⟩ := h
  rcases hown.2 with ⟨_, h0⟩ | ⟨g, cap, cur, rfl, hg, hc, _⟩
  · omega
  · exact ⟨g, cap, rfl, hown, (Array.getElem?_eq_some_iff.1 hc).1, hb⟩
end Go.Proofs.Ytfpfpdjnmfiffaa
