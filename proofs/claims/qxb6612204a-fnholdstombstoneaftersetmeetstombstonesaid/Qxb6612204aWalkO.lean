import Derived.Test.Qxb6612204aWalkN
namespace Go.Proofs.Qxb6612204a
open Go.RowKit Plain
set_option linter.unusedVariables false

def rkRow (r : Rk) : Array Value := #[.int .u64 r.r0, .int .u64 r.r1, .int .i64 (r.n : Int)]
theorem rk_get (A D : Array Value) (r : Rk) (j : Nat) (hj : j < 3) : (A ++ rkRow r ++ D)[A.size + j]? = (rkRow r)[j]? := by
  rw [Array.append_assoc, Array.getElem?_append_right (by omega), Array.getElem?_append_left (by simp [rkRow]; omega)]
  congr 1
  omega
theorem rk_set (A D : Array Value) (r : Rk) (j : Nat) (hj : j < 3) (v : Value) : (A ++ rkRow r ++ D).setIfInBounds (A.size + j) v = A ++ (rkRow r).setIfInBounds j v ++ D := by
  rw [Array.append_assoc, Array.setIfInBounds_append_right (by omega), Array.setIfInBounds_append_left (by simp [rkRow]; omega), ← Array.append_assoc]
  congr 3
  omega
theorem rkAt_of_row {w : World} {g : Nat} {A D : Array Value} {r : Rk} {t : TypeId} (h : w.heap[g]? = some (.cells (A ++ rkRow r ++ D) t)) : RkAt w g A.size r :=
  ⟨by rw [cell_of_row _ _ _ _ _ _ h]; exact rk_get A D r 0 (by omega), by rw [cell_of_row _ _ _ _ _ _ h]; exact rk_get A D r 1 (by omega),
    by rw [cell_of_row _ _ _ _ _ _ h]; exact rk_get A D r 2 (by omega), (Array.getElem?_eq_some_iff.1 h).1⟩
theorem set0 (r : Rk) (x : Int) : (rkRow r).setIfInBounds 0 (.int .u64 x) = rkRow ⟨x, r.r1, r.n⟩ := rfl
theorem set1 (r : Rk) (x : Int) : (rkRow r).setIfInBounds 1 (.int .u64 x) = rkRow ⟨r.r0, x, r.n⟩ := rfl
theorem set2 (r : Rk) (k : Nat) : (rkRow r).setIfInBounds 2 (.int .i64 (k : Int)) = rkRow ⟨r.r0, r.r1, k⟩ := rfl

/-- a store into the ranks -/
theorem store0 {w : World} {g : Nat} {A D : Array Value} {r : Rk} {t : TypeId} (h : w.heap[g]? = some (.cells (A ++ rkRow r ++ D) t)) (x : Int) :
    (w.setCell ⟨g, A.size, none⟩ (.int .u64 x)).heap[g]? = some (.cells (A ++ rkRow ⟨x, r.r1, r.n⟩ ++ D) t) := by
  rw [heap_setCell_same _ _ _ _ _ _ h, ← set0 r x, ← rk_set A D r 0 (by omega)]; rfl
theorem store1 {w : World} {g : Nat} {A D : Array Value} {r : Rk} {t : TypeId} (h : w.heap[g]? = some (.cells (A ++ rkRow r ++ D) t)) (x : Int) :
    (w.setCell ⟨g, A.size + 1, none⟩ (.int .u64 x)).heap[g]? = some (.cells (A ++ rkRow ⟨r.r0, x, r.n⟩ ++ D) t) := by
  rw [heap_setCell_same _ _ _ _ _ _ h, ← set1 r x, ← rk_set A D r 1 (by omega)]
theorem store2 {w : World} {g : Nat} {A D : Array Value} {r : Rk} {t : TypeId} (h : w.heap[g]? = some (.cells (A ++ rkRow r ++ D) t)) (k : Nat) :
    (w.setCell ⟨g, A.size + 2, none⟩ (.int .i64 (k : Int))).heap[g]? = some (.cells (A ++ rkRow ⟨r.r0, r.r1, k⟩ ++ D) t) := by
  rw [heap_setCell_same _ _ _ _ _ _ h, ← set2 r k, ← rk_set A D r 2 (by omega)]

set_option maxHeartbeats 1000000 in
theorem radd_held (g : Nat) (A D : Array Value) (r : Rk) (v : Int) (t : TypeId) (w : World) (hn : r.n ≤ 2) (hg : w.heap[g]? = some (.cells (A ++ rkRow r ++ D) t)) (hh : r.has v = true) :
    Calls Try.prog 41 #[.pointer (some ⟨g, A.size, none⟩), .int .u64 v] w fun e w' => e = .returned (.tuple #[]) ∧ w'.heap[g]? = some (.cells (A ++ rkRow r ++ D) t) ∧ But g w w' := by
  have HG : Hid _ := hg
  clear hg
  go_enter Try.func41, Try.ntmps41
  go_wp2_with fail
  refine (rholds_any g A.size r v w (rkAt_of_row HG.out) hn).mono ?_
  rw [hh]
  rintro e w1 ⟨rfl, hb1⟩
  have HB : Hid _ := hb1
  clear hb1
  go_wp2
  refine bodyPost_ret (results_none rfl _ _ _) rfl ?_
  exact ⟨rfl, (HB.out.block _ (Array.getElem?_eq_some_iff.1 HG.out).1).trans HG.out, But.of_below HB.out⟩

set_option maxHeartbeats 1000000 in
theorem radd_0 (g : Nat) (A D : Array Value) (r0 r1 v : Int) (t : TypeId) (w : World) (hg : w.heap[g]? = some (.cells (A ++ rkRow ⟨r0, r1, 0⟩ ++ D) t)) :
    Calls Try.prog 41 #[.pointer (some ⟨g, A.size, none⟩), .int .u64 v] w fun e w' => e = .returned (.tuple #[]) ∧ w'.heap[g]? = some (.cells (A ++ rkRow ⟨v, r1, 1⟩ ++ D) t) ∧ But g w w' := by
  have HG : Hid _ := hg
  clear hg
  go_enter Try.func41, Try.ntmps41
  go_wp2_with fail
  refine (rholds_any g A.size ⟨r0, r1, 0⟩ v w (rkAt_of_row HG.out) (Nat.zero_le _)).mono ?_
  rintro e w1 ⟨rfl, hb1⟩
  have hh : Rk.has ⟨r0, r1, 0⟩ v = false := by simp [Rk.has]
  rw [hh]
  have HG1 : Hid (w1.heap[g]? = some (.cells (A ++ rkRow ⟨r0, r1, 0⟩ ++ D) t)) := (hb1.block _ (Array.getElem?_eq_some_iff.1 HG.out).1).trans HG.out
  have HB : Hid _ := hb1
  clear hb1 HG hh
  have c0 : w1.cell? ⟨g, A.size, none⟩ = some (.int .u64 r0) := (rkAt_of_row HG1.out).c0
  have c2 : w1.cell? ⟨g, A.size + 2, none⟩ = some (.int .i64 0) := (rkAt_of_row HG1.out).c2
  have f0 : w1.frozen? ⟨g, A.size, none⟩ = false := frozen_of_row _ _ _ _ _ HG1.out
  have f2 : w1.frozen? ⟨g, A.size + 2, none⟩ = false := frozen_of_row _ _ _ _ _ HG1.out
  have HG2 : Hid _ := store2 HG1.out 1
  have HG3 : Hid _ := store0 HG2.out v
  go_wp2
  go_rounds 1
  go_end0
  exact ⟨rfl, HG3.out, (But.of_below HB.out).trans ((But.setCell _ _ _ _).trans (But.setCell _ _ _ _))⟩
end Go.Proofs.Qxb6612204a
