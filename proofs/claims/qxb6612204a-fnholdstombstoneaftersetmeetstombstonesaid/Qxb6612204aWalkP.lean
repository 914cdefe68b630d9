import Derived.Test.Qxb6612204aWalkO
namespace Go.Proofs.Qxb6612204a
open Go.RowKit Plain
set_option linter.unusedVariables false

set_option maxHeartbeats 1000000 in
theorem radd_1 (g : Nat) (A D : Array Value) (r0 r1 v : Int) (t : TypeId) (w : World) (hg : w.heap[g]? = some (.cells (A ++ rkRow ⟨r0, r1, 1⟩ ++ D) t)) (hne : r0 ≠ v) :
    Calls Try.prog 41 #[.pointer (some ⟨g, A.size, none⟩), .int .u64 v] w fun e w' => e = .returned (.tuple #[]) ∧ w'.heap[g]? = some (.cells (A ++ rkRow (Rk.ins ⟨r0, r1, 1⟩ v) ++ D) t) ∧ But g w w' := by
  have HG : Hid _ := hg
  clear hg
  have hh : Rk.has ⟨r0, r1, 1⟩ v = false := by simp [Rk.has, hne]
  go_enter Try.func41, Try.ntmps41
  go_wp2_with fail
  refine (rholds_any g A.size ⟨r0, r1, 1⟩ v w (rkAt_of_row HG.out) (show 1 ≤ 2 by omega)).mono ?_
  rintro e w1 ⟨rfl, hb1⟩
  rw [hh]
  have HG1 : Hid (w1.heap[g]? = some (.cells (A ++ rkRow ⟨r0, r1, 1⟩ ++ D) t)) := (hb1.block _ (Array.getElem?_eq_some_iff.1 HG.out).1).trans HG.out
  have HB : Hid _ := hb1
  clear hb1 HG hh
  have c2 : w1.cell? ⟨g, A.size + 2, none⟩ = some (.int .i64 1) := (rkAt_of_row HG1.out).c2
  have f2 : w1.frozen? ⟨g, A.size + 2, none⟩ = false := frozen_of_row _ _ _ _ _ HG1.out
  have HG2 : Hid ((w1.setCell ⟨g, A.size + 2, none⟩ (.int .i64 2)).heap[g]? = some (.cells (A ++ rkRow ⟨r0, r1, 2⟩ ++ D) t)) := store2 HG1.out 2
  have HB2 : Hid (But g w (w1.setCell ⟨g, A.size + 2, none⟩ (.int .i64 2))) := (But.of_below HB.out).trans (But.setCell _ _ _ _)
  clear HB
  have k0 : (w1.setCell ⟨g, A.size + 2, none⟩ (.int .i64 2)).cell? ⟨g, A.size, none⟩ = some (.int .u64 r0) := (rkAt_of_row HG2.out).c0
  have k1 : (w1.setCell ⟨g, A.size + 2, none⟩ (.int .i64 2)).cell? ⟨g, A.size + 1, none⟩ = some (.int .u64 r1) := (rkAt_of_row HG2.out).c1
  have e1 : (w1.setCell ⟨g, A.size + 2, none⟩ (.int .i64 2)).frozen? ⟨g, A.size + 1, none⟩ = false := frozen_of_row _ _ _ _ _ HG2.out
  have e0 : (w1.setCell ⟨g, A.size + 2, none⟩ (.int .i64 2)).frozen? ⟨g, A.size, none⟩ = false := frozen_of_row _ _ _ _ _ HG2.out
  by_cases hv : v < r0
  · have HI : Hid (Rk.ins ⟨r0, r1, 1⟩ v = ⟨v, r0, 2⟩) := if_pos hv
    have hd : r0 > v := hv
    go_wp2
    refine wp_loop_rounds 2 ?_
    rw [rounds_succ]
    go_wp2
    generalize w1.setCell ⟨g, A.size + 2, none⟩ (.int .i64 2) = w2 at HG2 HB2 k0 k1 e0 e1 ⊢
    clear c2 f2 HG1
    have HG3 : Hid ((w2.drew.setCell ⟨g, A.size + 1, none⟩ (.int .u64 r0)).heap[g]? = some (.cells (A ++ rkRow ⟨r0, r0, 2⟩ ++ D) t)) := store1 (w := w2.drew) HG2.out r0
    have q0 : (w2.drew.setCell ⟨g, A.size + 1, none⟩ (.int .u64 r0)).cell? ⟨g, A.size, none⟩ = some (.int .u64 r0) := (rkAt_of_row HG3.out).c0
    have q1 : (w2.drew.setCell ⟨g, A.size + 1, none⟩ (.int .u64 r0)).frozen? ⟨g, A.size, none⟩ = false := frozen_of_row _ _ _ _ _ HG3.out
    have hw0 : IntKind.i64.wrap 0 = 0 := by decide
    have hw1 : IntKind.i64.wrap (1 - 1) = 0 := by decide
    go_region_held3 (fun w' => w'.cell? ⟨g, A.size, none⟩ = some (.int .u64 r0)) (first | exact k0 | exact q0) (fail)
    have HG4 : Hid (((w2.setCell ⟨g, A.size + 1, none⟩ (.int .u64 r0)).setCell ⟨g, A.size, none⟩ (.int .u64 v)).heap[g]? = some (.cells (A ++ rkRow ⟨v, r0, 2⟩ ++ D) t)) := store0 (store1 HG2.out r0) v
    go_wp2
    rw [rounds_succ]
    go_wp2
    go_end0
    exact ⟨rfl, by rw [HI.out]; exact HG4.out, ((HB2.out.trans (But.setCell _ _ _ _)).trans (But.setCell _ _ _ _)).trans (But.of_below (Below.refl _ _).drew)⟩
  · have HI : Hid (Rk.ins ⟨r0, r1, 1⟩ v = ⟨r0, v, 2⟩) := if_neg hv
    have HG3 : Hid _ := store1 HG2.out v
    have hd : ¬ r0 > v := hv
    go_wp2
    go_rounds 1
    go_end0
    exact ⟨rfl, by rw [HI.out]; exact HG3.out, HB2.out.trans (But.setCell _ _ _ _)⟩
end Go.Proofs.Qxb6612204a
