/-
  The lowest ranks, in plain words: at most two, ascending; what 'add' and 'merge' make of them. No Go in sight.
-/
namespace Go.Proofs.Qxb6612204a

structure Rk where
  r0 : Int
  r1 : Int
  n : Nat
deriving DecidableEq

namespace Rk
def has (r : Rk) (v : Int) : Bool := (decide (0 < r.n) && decide (r.r0 = v)) || (decide (1 < r.n) && decide (r.r1 = v))
/-- 'v' put in its place among the two, the higher dropped -/
def ins (r : Rk) (v : Int) : Rk := if v < r.r0 then ⟨v, r.r0, 2⟩ else ⟨r.r0, v, 2⟩
def add (r : Rk) (v : Int) : Rk :=
  if r.has v then r
  else if r.n = 0 then ⟨v, r.r1, 1⟩
  else if r.n = 1 then r.ins v
  else if r.r1 < v then r
  else r.ins v
/-- the first 'n' of f0, f1 added -/
def merge (r : Rk) (f : Rk) : Rk := if f.n = 0 then r else if f.n = 1 then r.add f.r0 else (r.add f.r0).add f.r1
def zero : Rk := ⟨0, 0, 0⟩

theorem add_le (r : Rk) (v : Int) (h : r.n ≤ 2) : (r.add v).n ≤ 2 := by
  unfold add ins
  split
  · exact h
  · split
    · simp
    · split
      · split <;> simp
      · split
        · exact h
        · split <;> simp
theorem merge_le (r f : Rk) (h : r.n ≤ 2) : (r.merge f).n ≤ 2 := by
  unfold merge
  split
  · exact h
  · split
    · exact add_le _ _ h
    · exact add_le _ _ (add_le _ _ h)
end Rk
end Go.Proofs.Qxb6612204a
