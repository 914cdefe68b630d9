import Derived.Test.Qxb6612204aWalkT
import Derived.Test.Qxb6612204aPtr
import Derived.Deep.QuietTactic
import Derived.BigQuiet
namespace Go.Proofs.Qxb6612204a
open Go.RowKit Plain
set_option linter.unusedVariables false

abbrev hd4 (node set : ByteArray) (rank holds : Int) : Array Value := #[.string node, .string set, .int .u64 rank, .int .i64 holds]

theorem st_T (node set : ByteArray) (rank h : Int) (rec T R : List UInt8) (r0 r1 n e : Int) :
    stRow node set rank h rec (tombRow T R r0 r1 n e) = (hd4 node set rank h ++ bv rec) ++ bv T ++ (bv R ++ #[.int .u64 r0, .int .u64 r1, .int .i64 n, .int .u64 e]) := by
  unfold stRow tombRow; simp only [Array.append_assoc]
theorem st_R (node set : ByteArray) (rank h : Int) (rec T R : List UInt8) (r0 r1 n e : Int) :
    stRow node set rank h rec (tombRow T R r0 r1 n e) = (hd4 node set rank h ++ bv rec ++ bv T) ++ bv R ++ #[.int .u64 r0, .int .u64 r1, .int .i64 n, .int .u64 e] := by
  unfold stRow tombRow; simp only [Array.append_assoc]
theorem st_K (node set : ByteArray) (rank h : Int) (rec T R : List UInt8) (r : Rk) (e : Int) :
    stRow node set rank h rec (tombRow T R r.r0 r.r1 (r.n : Int) e) = (hd4 node set rank h ++ bv rec ++ bv T ++ bv R) ++ rkRow r ++ #[.int .u64 e] := by
  unfold stRow tombRow rkRow; simp only [Array.append_assoc]; rfl
theorem st_tomb (node set : ByteArray) (rank h : Int) (rec : List UInt8) (tomb : Array Value) : stRow node set rank h rec tomb = (hd4 node set rank h ++ bv rec) ++ tomb ++ #[] := by
  unfold stRow; simp only [Array.append_empty]
theorem szT (node set : ByteArray) (rank h : Int) (rec : List UInt8) (hr : rec.length = 1024) : (hd4 node set rank h ++ bv rec).size = 1028 := by
  simp [bv_size, hr]
theorem szR (node set : ByteArray) (rank h : Int) (rec T : List UInt8) (hr : rec.length = 1024) (hT : T.length = 1024) : (hd4 node set rank h ++ bv rec ++ bv T).size = 2052 := by
  simp [bv_size, hr, hT]
theorem szK (node set : ByteArray) (rank h : Int) (rec T R : List UInt8) (hr : rec.length = 1024) (hT : T.length = 1024) (hR : R.length = 1024) : (hd4 node set rank h ++ bv rec ++ bv T ++ bv R).size = 3076 := by
  simp [bv_size, hr, hT, hR]

set_option maxHeartbeats 400000 in
theorem ownRank_any (g : Nat) (rank E : Int) (w : World) (h0 : 0 ≤ rank) (h1 : rank ≤ 18446744073709551615) (e0 : 0 ≤ E) (e1 : E ≤ 18446744073709551615)
    (hc : w.cell? ⟨g, 2, none⟩ = some (.int .u64 rank)) (he : w.cell? ⟨g, 3079, none⟩ = some (.int .u64 E)) :
    Calls Try.prog 40 #[.pointer (some ⟨g, 0, none⟩)] w fun e w' => e = .returned (.int .u64 (rankAtI rank E)) ∧ Below w.heap.size w w' := by
  go_enter Try.func40, Try.ntmps40
  go_wp2
  go_quiet ((go_at_call 51; exact Calls.quiet_of_same (rankAt_any rank E _ h0 h1 e0 e1)))
  go_wp2
  go_ret
  exact ⟨rfl, ⟨rfl, rfl, rfl, Nat.le_refl _, fun _ _ => rfl⟩⟩
end Go.Proofs.Qxb6612204a
