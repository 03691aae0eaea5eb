/- The joiner's state: the texts and the bytes that it holds; what its methods but Done tell. -/
import Derived.Test.YtfpfpdjnmfiffaaJoinA
namespace Go.Proofs.Ytfpfpdjnmfiffaa
open Go.RowKit
set_option linter.unusedVariables false
set_option linter.unusedSimpArgs false

/-- A piece of bytes: its block, what it holds, its slice's capacity, its place. -/
structure Piece where
  (g : Nat) (s : ByteArray) (c : Nat) (off : Nat)
def scs (S : List (ByteArray × Nat)) : List Value := S.flatMap fun x => [.string x.1, .int .u32 (x.2 : Int)]
def bcs (S : List Piece) : List Value := S.flatMap fun x => [.slice (some ⟨x.g, 0, none⟩) x.s.size x.c, .int .u32 (x.off : Int)]
/-- The block g holds the bytes of s. -/
def ByteBlk (w : World) (g : Nat) (s : ByteArray) : Prop := ∃ C fr, w.heap[g]? = some (.cells C 5 fr) ∧ ∀ j (hj : j < s.size), C[j]? = some (.int .u8 ((s[j]'hj).toNat : Int))
/-- The joiner at block B holds S and Bs, their length and their last byte. -/
def J (B : Nat) (S : List (ByteArray × Nat)) (Bs : List Piece) (len : Nat) (last : Int) (w : World) : Prop :=
  ∃ vs vb, Jn B vs vb len last w ∧ w.ownsRow (B + 1) 80 2 vs S.length (scs S) ∧ w.ownsRow (B + 1) 82 2 vb Bs.length (bcs Bs) ∧ ∀ x ∈ Bs, B < x.g ∧ ByteBlk w x.g x.s
theorem own_ne {w : World} {B E sz n g : Nat} {v : Value} {cs : List Value} {C : Array Value} {t : TypeId} {fr : Nat × Nat} (h : w.ownsRow B E sz v n cs) (hg : w.heap[g]? = some (.cells C t fr)) (ht : t ≠ E) : some g ≠ v.ownBlock := by
  rcases h.2 with ⟨rfl, _⟩ | ⟨g', cap, cur, rfl, _, hc, _⟩
  · simp [Value.ownBlock]
  · intro e
    simp only [Value.ownBlock, Option.some.injEq] at e
    subst e
    rw [hg] at hc
    simp at hc
    exact ht hc.2.1
theorem own_apart {w w' : World} {B E E' sz sz' n n' : Nat} {v v' : Value} {cs cs' : List Value} (h : w.ownsRow (B + 1) E sz v n cs) (h' : w.ownsRow (B + 1) E' sz' v' n' cs') (hE : E ≠ E') (ha : Apart B v'.ownBlock w w') : w'.ownsRow (B + 1) E sz v n cs := by
  refine ⟨h.1, ?_⟩
  rcases h.2 with h1 | ⟨g, cap, cur, rfl, hb, hc, hr⟩
  · exact .inl h1
  · exact .inr ⟨g, cap, cur, rfl, hb, ha g _ hc (by omega) (own_ne h' hc hE), hr⟩
theorem blk_apart {w w' : World} {B E sz n g : Nat} {v : Value} {cs : List Value} {s : ByteArray} (h : ByteBlk w g s) (hB : B < g) (h' : w.ownsRow (B + 1) E sz v n cs) (hE : 5 ≠ E) (ha : Apart B v.ownBlock w w') : ByteBlk w' g s := by
  obtain ⟨C, fr, hg, hC⟩ := h
  exact ⟨C, fr, ha g _ hg (by omega) (own_ne h' hg hE), hC⟩
theorem scs_snoc (S : List (ByteArray × Nat)) (s : ByteArray) (t : Nat) : scs S ++ [.string s, .int .u32 (t : Int)] = scs (S ++ [(s, t)]) := by simp [scs]
theorem bcs_snoc (S : List Piece) (p : Piece) : bcs S ++ [.slice (some ⟨p.g, 0, none⟩) p.s.size p.c, .int .u32 (p.off : Int)] = bcs (S ++ [p]) := by simp [bcs]

theorem join_string {B : Nat} {S : List (ByteArray × Nat)} {Bs : List Piece} {len : Nat} {last : Int} {w : World} (s : ByteArray) (h : J B S Bs len last w) (hs : s.size ≤ 1000) (hl : len ≤ 100000) (hn : S.length ≤ 1000) :
    Calls Try.prog 19 #[.pointer (some ⟨B, 0, none⟩), .string s] w fun e w' => e = .returned (.tuple #[]) ∧ J B (S ++ [(s, len)]) Bs (len + s.size) (lastOf s.data.toList last) w' ∧ Below B w w' := by
  obtain ⟨vs, vb, hJ, hS, hB, hP⟩ := h
  refine (addString_any B S.length vs vb len last (scs S) s w hJ hS hs hl hn).mono ?_
  rintro e w' ⟨rfl, vs', hJ', hS', ha, hb⟩
  refine ⟨rfl, ⟨vs', vb, hJ', ?_, own_apart hB hS (by decide) ha, fun x hx => ⟨(hP x hx).1, blk_apart (hP x hx).2 (hP x hx).1 hS (by decide) ha⟩⟩, hb⟩
  rw [← scs_snoc, List.length_append]
  exact hS'
theorem join_bytes {B : Nat} {S : List (ByteArray × Nat)} {Bs : List Piece} {len : Nat} {last : Int} {w : World} (s : ByteArray) (g c : Nat) (h : J B S Bs len last w) (hg : B < g) (hs : s.size ≤ 1000) (hl : len ≤ 100000) (hn : Bs.length ≤ 1000) (hblk : ByteBlk w g s) :
    Calls Try.prog 20 #[.pointer (some ⟨B, 0, none⟩), .slice (some ⟨g, 0, none⟩) s.size c] w fun e w' => e = .returned (.tuple #[]) ∧ J B S (Bs ++ [⟨g, s, c, len⟩]) (len + s.size) (lastOf s.data.toList last) w' ∧ Below B w w' := by
  obtain ⟨vs, vb, hJ, hS, hB, hP⟩ := h
  refine (addBytes_any B Bs.length g c vs vb len last (bcs Bs) s w hJ hB hs hl hn ?_).mono ?_
  · obtain ⟨C, fr, hc, hC⟩ := hblk
    intro i hi
    rw [World.cell?, hc]
    simpa using hC i hi
  rintro e w' ⟨rfl, vb', hJ', hB', ha, hb⟩
  refine ⟨rfl, ⟨vs, vb', hJ', own_apart hS hB (by decide) ha, ?_, fun x hx => ?_⟩, hb⟩
  · rw [← bcs_snoc Bs ⟨g, s, c, len⟩, List.length_append]
    exact hB'
  · rcases List.mem_append.1 hx with hx | hx
    · exact ⟨(hP x hx).1, blk_apart (hP x hx).2 (hP x hx).1 hB (by decide) ha⟩
    · simp at hx
      subst hx
      exact ⟨hg, blk_apart hblk hg hB (by decide) ha⟩
set_option maxRecDepth 100000 in
set_option maxHeartbeats 1000000 in
theorem length_any {B : Nat} {vs vb : Value} {len last : Int} {w : World} (h : Jn B vs vb len last w) :
    Calls Try.prog 22 #[.pointer (some ⟨B, 0, none⟩)] w fun e w' => e = .returned (.int .u32 len) ∧ w = w' := by
  have c2 := h.c2
  clear h
  go_enter Try.func22, Try.ntmps22
  go_wp2
  go_ret
  exact ⟨rfl, rfl⟩
set_option maxRecDepth 100000 in
set_option maxHeartbeats 1000000 in
theorem lastByte_any {B : Nat} {vs vb : Value} {len last : Int} {w : World} (h : Jn B vs vb len last w) :
    Calls Try.prog 23 #[.pointer (some ⟨B, 0, none⟩)] w fun e w' => e = .returned (.int .u8 last) ∧ w = w' := by
  have c3 := h.c3
  clear h
  go_enter Try.func23, Try.ntmps23
  go_wp2
  go_ret
  exact ⟨rfl, rfl⟩
def nl : ByteArray := ⟨#[10]⟩
set_option maxRecDepth 100000 in
set_option maxHeartbeats 2000000 in
theorem newline_any {B : Nat} {S : List (ByteArray × Nat)} {Bs : List Piece} {len : Nat} {last : Int} {w : World} (h : J B S Bs len last w) (hl : len ≤ 100000) (hn : S.length ≤ 1000) :
    Calls Try.prog 21 #[.pointer (some ⟨B, 0, none⟩)] w fun e w' => e = .returned (.tuple #[]) ∧ Below B w w' ∧ (if 0 < len ∧ last ≠ 10 then J B (S ++ [(⟨#[10]⟩, len)]) Bs (len + 1) 10 w' else J B S Bs len last w') := by
  have CS := join_string ⟨#[10]⟩ h (by decide) hl hn
  have HJ := Lib.hid h
  obtain ⟨vs, vb, hJ, _⟩ := h
  have c2 := hJ.c2
  have c3 := hJ.c3
  clear hJ
  by_cases h1 : 0 < len
  · have t1 : decide ((0 : Int) < (len : Int)) = true := by simp; omega
    by_cases h2 : last = 10
    · subst h2
      go_enter Try.func21, Try.ntmps21
      go_wp2
      go_end0
      exact ⟨rfl, Below.refl _ _, by first | exact HJ.out | (rw [if_neg (by simp)]; exact HJ.out)⟩
    · have t2 : (last == 10) = false := by simpa using h2
      have HC := Lib.hid CS
      clear CS
      go_enter Try.func21, Try.ntmps21
      go_wp2_with (go_at_call 19; refine HC.out.mono ?_; rintro e w1 ⟨rfl, hJ1, hb1⟩)
      go_end0
      exact ⟨rfl, hb1, by first | exact hJ1 | (rw [if_pos ⟨h1, h2⟩]; exact hJ1)⟩
  · obtain rfl : len = 0 := by omega
    go_enter Try.func21, Try.ntmps21
    go_wp2
    go_end0
    exact ⟨rfl, Below.refl _ _, by first | exact HJ.out | (rw [if_neg (by simp)]; exact HJ.out)⟩
end Go.Proofs.Ytfpfpdjnmfiffaa
