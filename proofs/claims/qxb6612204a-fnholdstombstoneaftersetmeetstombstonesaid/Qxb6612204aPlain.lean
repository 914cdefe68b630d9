/-
  The plain functions: the hash, the registers; in the walk's own spelling. No Go in sight.
-/
import Derived.WalkKit
import Derived.OpenShut
namespace Go.Proofs.Qxb6612204a.Plain

/-- One byte of FNV-1a. -/
def fstep (h : Int) (c : UInt8) : Int := IntKind.u64.wrap (bits .xor .u64 h (IntKind.u64.wrap (c.toNat : Int)) * 1099511628211)
def fnv (h : Int) (l : List UInt8) : Int := l.foldl fstep h
def fbase : Int := 14695981039346656037

theorem wrap64_bd (x : Int) : 0 ≤ IntKind.u64.wrap x ∧ IntKind.u64.wrap x ≤ 18446744073709551615 := bounds_u64 (wf_wrap .u64 x)
theorem bits64_bd (op : BinOp) (x y : Int) : 0 ≤ bits op .u64 x y ∧ bits op .u64 x y ≤ 18446744073709551615 := bounds_u64 (wf_bits op .u64 x y)

theorem fnv_bd : ∀ (l : List UInt8) (h : Int), 0 ≤ h ∧ h ≤ 18446744073709551615 → 0 ≤ fnv h l ∧ fnv h l ≤ 18446744073709551615
  | [], _, hh => hh
  | c :: l, h, _ => fnv_bd l (fstep h c) (wrap64_bd _)

theorem fnv_snoc (h : Int) (l : List UInt8) (c : UInt8) : fnv h (l ++ [c]) = fstep (fnv h l) c := by simp [fnv]

def mix1 (h : Int) : Int := IntKind.u64.wrap (bits .xor .u64 h (h / 1073741824) * 13787848793156543929)
def mix2 (h : Int) : Int := IntKind.u64.wrap (bits .xor .u64 h (h / 134217728) * 10723151780598845931)
def mix3 (h : Int) : Int := bits .xor .u64 h (h / 2147483648)
def mix (h : Int) : Int := mix3 (mix2 (mix1 h))
theorem mix_bd (h : Int) : 0 ≤ mix h ∧ mix h ≤ 18446744073709551615 := by unfold mix mix3; exact bits64_bd _ _ _

def hash (l : List UInt8) : Int := mix (fnv fbase l)
theorem hash_bd (l : List UInt8) : 0 ≤ hash l ∧ hash l ≤ 18446744073709551615 := mix_bd _
end Go.Proofs.Qxb6612204a.Plain
