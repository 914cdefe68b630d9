import Derived.Test.Qxb6612204aWalkP
namespace Go.Proofs.Qxb6612204a
open Go.RowKit Plain
set_option linter.unusedVariables false

set_option maxHeartbeats 1000000 in
theorem radd_2 (g : Nat) (A D : Array Value) (r0 r1 v : Int) (t : TypeId) (w : World) (hg : w.heap[g]? = some (.cells (A ++ rkRow ⟨r0, r1, 2⟩ ++ D) t)) (hne : r0 ≠ v) (hne1 : r1 ≠ v) :
    Calls Try.prog 41 #[.pointer (some ⟨g, A.size, none⟩), .int .u64 v] w fun e w' => e = .returned (.tuple #[]) ∧ w'.heap[g]? = some (.cells (A ++ rkRow (if r1 < v then ⟨r0, r1, 2⟩ else Rk.ins ⟨r0, r1, 2⟩ v) ++ D) t) ∧ But g w w' := by
  have HG : Hid _ := hg
  clear hg
  obtain ⟨q, hq⟩ : ∃ q, q = (if r1 < v then (⟨r0, r1, 2⟩ : Rk) else Rk.ins ⟨r0, r1, 2⟩ v) := ⟨_, rfl⟩
  rw [← hq]
  have HQ : Hid (q = (if r1 < v then (⟨r0, r1, 2⟩ : Rk) else Rk.ins ⟨r0, r1, 2⟩ v)) := hq
  clear hq
  have hh : Rk.has ⟨r0, r1, 2⟩ v = false := by simp [Rk.has, hne, hne1]
  go_enter Try.func41, Try.ntmps41
  go_wp2_with fail
  refine (rholds_any g A.size ⟨r0, r1, 2⟩ v w (rkAt_of_row HG.out) (show 2 ≤ 2 by omega)).mono ?_
  rintro e w2 ⟨rfl, hb1⟩
  rw [hh]
  have HG2 : Hid (w2.heap[g]? = some (.cells (A ++ rkRow ⟨r0, r1, 2⟩ ++ D) t)) := (hb1.block _ (Array.getElem?_eq_some_iff.1 HG.out).1).trans HG.out
  have HB2 : Hid (But g w w2) := But.of_below hb1
  clear hb1 HG hh
  have c2 : w2.cell? ⟨g, A.size + 2, none⟩ = some (.int .i64 2) := (rkAt_of_row HG2.out).c2
  have k0 : w2.cell? ⟨g, A.size, none⟩ = some (.int .u64 r0) := (rkAt_of_row HG2.out).c0
  have k1 : w2.cell? ⟨g, A.size + 1, none⟩ = some (.int .u64 r1) := (rkAt_of_row HG2.out).c1
  have e1 : w2.frozen? ⟨g, A.size + 1, none⟩ = false := frozen_of_row _ _ _ _ _ HG2.out
  have e0 : w2.frozen? ⟨g, A.size, none⟩ = false := frozen_of_row _ _ _ _ _ HG2.out
  by_cases hv1 : r1 < v
  · have HI : Hid (q = ⟨r0, r1, 2⟩) := HQ.out.trans (if_pos hv1)
    have hd : v > r1 := hv1
    go_wp2
    refine bodyPost_ret (results_none rfl _ _ _) rfl ?_
    exact ⟨rfl, by rw [HI.out]; exact HG2.out, HB2.out⟩
  · by_cases hv : v < r0
    · have HI : Hid (q = ⟨v, r0, 2⟩) := HQ.out.trans ((if_neg hv1).trans (if_pos hv))
      have hd : r0 > v := hv
      have hd1 : ¬ v > r1 := hv1
      go_wp2
      refine wp_loop_rounds 2 ?_
      rw [rounds_succ]
      go_wp2
      have HG3 : Hid ((w2.drew.setCell ⟨g, A.size + 1, none⟩ (.int .u64 r0)).heap[g]? = some (.cells (A ++ rkRow ⟨r0, r0, 2⟩ ++ D) t)) := store1 (w := w2.drew) HG2.out r0
      have q0 : (w2.drew.setCell ⟨g, A.size + 1, none⟩ (.int .u64 r0)).cell? ⟨g, A.size, none⟩ = some (.int .u64 r0) := (rkAt_of_row HG3.out).c0
      have q1 : (w2.drew.setCell ⟨g, A.size + 1, none⟩ (.int .u64 r0)).frozen? ⟨g, A.size, none⟩ = false := frozen_of_row _ _ _ _ _ HG3.out
      have hw0 : IntKind.i64.wrap 0 = 0 := by decide
      have hw1 : IntKind.i64.wrap (1 - 1) = 0 := by decide
      go_region_held3 (fun w' => w'.cell? ⟨g, A.size, none⟩ = some (.int .u64 r0)) (first | exact k0 | exact q0) (fail)
      have HG4 : Hid (((w2.setCell ⟨g, A.size + 1, none⟩ (.int .u64 r0)).setCell ⟨g, A.size, none⟩ (.int .u64 v)).heap[g]? = some (.cells (A ++ rkRow ⟨v, r0, 2⟩ ++ D) t)) := store0 (store1 HG2.out r0) v
      go_wp2
      rw [rounds_succ]
      go_wp2
      go_end0
      exact ⟨rfl, by rw [HI.out]; exact HG4.out, ((HB2.out.trans (But.setCell _ _ _ _)).trans (But.setCell _ _ _ _)).trans (But.of_below (Below.refl _ _).drew)⟩
    · have HI : Hid (q = ⟨r0, v, 2⟩) := HQ.out.trans ((if_neg hv1).trans (if_neg hv))
      have HG3 : Hid _ := store1 HG2.out v
      have hd : ¬ r0 > v := hv
      have hd1 : ¬ v > r1 := hv1
      go_wp2
      go_rounds 1
      go_end0
      exact ⟨rfl, by rw [HI.out]; exact HG3.out, HB2.out.trans (But.setCell _ _ _ _)⟩

theorem radd_any (g : Nat) (A D : Array Value) (r : Rk) (v : Int) (t : TypeId) (w : World) (hn : r.n ≤ 2) (hg : w.heap[g]? = some (.cells (A ++ rkRow r ++ D) t)) :
    Calls Try.prog 41 #[.pointer (some ⟨g, A.size, none⟩), .int .u64 v] w fun e w' => e = .returned (.tuple #[]) ∧ w'.heap[g]? = some (.cells (A ++ rkRow (r.add v) ++ D) t) ∧ But g w w' := by
  by_cases hh : r.has v = true
  · have e : r.add v = r := if_pos hh
    rw [e]
    exact radd_held g A D r v t w hn hg hh
  · obtain ⟨r0, r1, n⟩ := r
    have hn' : n ≤ 2 := hn
    rcases (by omega : n = 0 ∨ n = 1 ∨ n = 2) with rfl | rfl | rfl
    · have e : Rk.add ⟨r0, r1, 0⟩ v = ⟨v, r1, 1⟩ := by simp [Rk.add, hh]
      rw [e]
      exact radd_0 g A D r0 r1 v t w hg
    · have hne : r0 ≠ v := fun q => hh (by simp [Rk.has, q])
      have e : Rk.add ⟨r0, r1, 1⟩ v = Rk.ins ⟨r0, r1, 1⟩ v := by simp [Rk.add, hh]
      rw [e]
      exact radd_1 g A D r0 r1 v t w hg hne
    · have hne : r0 ≠ v := fun q => hh (by simp [Rk.has, q])
      have hne1 : r1 ≠ v := fun q => hh (by simp [Rk.has, q])
      have e : Rk.add ⟨r0, r1, 2⟩ v = if r1 < v then ⟨r0, r1, 2⟩ else Rk.ins ⟨r0, r1, 2⟩ v := by simp [Rk.add, hh]
      rw [e]
      exact radd_2 g A D r0 r1 v t w hg hne hne1
end Go.Proofs.Qxb6612204a
