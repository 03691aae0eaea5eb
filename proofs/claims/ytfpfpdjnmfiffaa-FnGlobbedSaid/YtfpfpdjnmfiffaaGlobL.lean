/- Plain lists: parts of a pattern with a star between each two. -/
namespace Go.Proofs.Ytfpfpdjnmfiffaa.Glob

/-- The parts with a star between each two. -/
def join : List (List UInt8) → List UInt8
  | [] => []
  | [p] => p
  | p :: q :: r => p ++ 42 :: join (q :: r)
/-- No star in a part; each part but the first and the last has a sign. -/
def Inner : List (List UInt8) → Prop
  | [] => True
  | [_] => True
  | p :: q :: r => p ≠ [] ∧ Inner (q :: r)
def NoStar (ps : List (List UInt8)) : Prop := ∀ p ∈ ps, (42 : UInt8) ∉ p

theorem join_cons (p : List UInt8) (ps : List (List UInt8)) (h : ps ≠ []) : join (p :: ps) = p ++ 42 :: join ps := by
  cases ps with
  | nil => exact absurd rfl h
  | cons q r => rfl
/-- Behind a star no star stands. -/
theorem head_join (ps : List (List UInt8)) (hi : Inner ps) (hn : NoStar ps) : (join ps).head? ≠ some 42 := by
  cases ps with
  | nil => simp [join]
  | cons p r =>
    have hp := hn p (by simp)
    cases r with
    | nil =>
      simp only [join]
      intro h
      cases p with
      | nil => simp at h
      | cons x t => simp at h; exact hp (by simp [h])
    | cons q r =>
      intro h
      cases p with
      | nil => exact hi.1 rfl
      | cons x t => simp [join] at h; exact hp (by simp [h])
theorem inner_tail {p : List UInt8} {ps : List (List UInt8)} (h : Inner (p :: ps)) : Inner ps := by
  cases ps with
  | nil => trivial
  | cons q r => exact h.2
end Go.Proofs.Ytfpfpdjnmfiffaa.Glob
