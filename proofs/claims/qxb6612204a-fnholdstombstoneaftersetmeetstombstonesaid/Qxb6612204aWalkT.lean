import Derived.Test.Qxb6612204aWalkS
namespace Go.Proofs.Qxb6612204a
open Go.RowKit Plain
set_option linter.unusedVariables false
set_option linter.unusedSimpArgs false

theorem Try.info59 : (Try.prog.info? 59).map (·.size) = some 3 := by kernel_rfl
theorem rk_over (A D : Array Value) (r q : Rk) : over (A ++ rkRow r ++ D) A.size (rkRow q) = A ++ rkRow q ++ D := over_mid A (rkRow r) D (rkRow q) rfl

theorem rk_one (r : Rk) : (rkRow r).all (·.oneCell') = true := by simp [rkRow, Value.oneCell']

set_option maxHeartbeats 1000000 in
theorem mergeRanks_pos (g g2 : Nat) (A : Array Value) (f : Rk) (E : Int) (w : World) (hE0 : 0 < E) (hE1 : E ≤ 18446744073709551615) (hA : A.size = 3076) (hg : w.heap[g]? = some (.cells (A ++ rkRow Rk.zero ++ #[.int .u64 0]) 64)) (hf : RkAt w g2 2048 f) (he : w.cell? ⟨g2, 2051, none⟩ = some (.int .u64 E)) (hfn : f.n ≤ 2) (hne : g2 ≠ g) :
    Calls Try.prog 39 #[.pointer (some ⟨g, 1028, none⟩), .pointer (some ⟨g2, 0, none⟩)] w fun e w' => e = .returned (.tuple #[]) ∧ w'.heap[g]? = some (.cells (A ++ rkRow (Rk.zero.merge f) ++ #[.int .u64 E]) 64) ∧ But g w w' := by
  have hl := later_some w
  have hgs : g < w.heap.size := (Array.getElem?_eq_some_iff.1 hg).1
  have c1 : ∀ e : Later w, e.x.cell? ⟨g2, 2051, none⟩ = some (.int .u64 E) := fun e => (e.h.cell (p := ⟨g2, 2051, none⟩) hf.lt).trans he
  have c2 : ∀ e : Later w, e.x.cell? ⟨g, 3079, none⟩ = some (.int .u64 0) := fun e => by
    rw [cell_of_row _ _ _ _ _ _ ((e.h.block _ hgs).trans hg), ep_get A _ _ hA]
  have HG : Hid _ := hg
  have HF : Hid _ := hf
  clear hg hf he
  go_enter Try.func39, Try.ntmps39
  go_wp2
  refine wp_region_later Try.follows (by kernel_rfl) ?_
  repeat (go_big_quiet_step (fail))
  refine wpQuiet_nil ?_
  rintro ⟨w1, hb1⟩
  dsimp only
  have HG1 : Hid (w1.heap[g]? = some (.cells (A ++ rkRow Rk.zero ++ #[.int .u64 0]) 64)) := (hb1.block _ hgs).trans HG.out
  have HF1 : Hid (RkAt w1 g2 2048 f) := HF.out.later hb1
  have HB1 : Hid (Below w.heap.size w w1) := hb1
  have d1 : w1.cell? ⟨g2, 2051, none⟩ = some (.int .u64 E) := c1 ⟨w1, hb1⟩
  have d2 : w1.cell? ⟨g, 3079, none⟩ = some (.int .u64 0) := c2 ⟨w1, hb1⟩
  have d3 : w1.frozen? ⟨g, 3079, none⟩ = false := frozen_of_row _ _ _ _ _ HG1.out
  have HG2 : Hid ((w1.setCell ⟨g, 3079, none⟩ (.int .u64 E)).heap[g]? = some (.cells (A ++ rkRow Rk.zero ++ #[.int .u64 E]) 64)) := by
    show _ = _
    rw [heap_setCell_same _ _ _ _ _ _ HG1.out, ep_set A _ _ _ hA]
  clear c1 c2 hl hb1 HG HF hgs
  go_wp2_with (first
    | (refine wpList_store_seg rfl 59 (.tmp 23) (.tmp 19) rfl g 3076 (rkRow Rk.zero) rfl rfl 64 (A ++ rkRow Rk.zero ++ #[.int .u64 E]) ?_ ?_ ?_ ?_ ?_; (exact HG2.out); (rw [Try.info59]; rfl); (simp [rkRow, hA]); (exact rk_one _); simp only [Act.put, List.setIfInBounds_toArray, List.set_cons_succ, List.set_cons_zero]))
  have HB3 : Hid (But g w1 ((w1.setCell ⟨g, 3079, none⟩ (.int .u64 E)).setRow g (over (A ++ rkRow Rk.zero ++ #[.int .u64 E]) 3076 (rkRow Rk.zero)))) := (But.setCell _ _ _ _).trans (But.setRow _ _ _)
  have HG3 : Hid (((w1.setCell ⟨g, 3079, none⟩ (.int .u64 E)).setRow g (over (A ++ rkRow Rk.zero ++ #[.int .u64 E]) 3076 (rkRow Rk.zero))).heap[g]? = some (.cells (A ++ rkRow Rk.zero ++ #[.int .u64 E]) 64)) := by
    have e := rk_over A #[.int .u64 E] Rk.zero Rk.zero
    rw [hA] at e
    exact (setRow_heap _ _ _ _ _ _ HG2.out).trans (by rw [e])
  generalize (w1.setCell ⟨g, 3079, none⟩ (.int .u64 E)).setRow g (over (A ++ rkRow Rk.zero ++ #[.int .u64 E]) 3076 (rkRow Rk.zero)) = w2 at HB3 HG3 ⊢
  have HF2 : Hid (RkAt w2 g2 2048 f) := HF1.out.but HB3.out hne
  have HB2 : Hid (But g w w2) := (But.of_below HB1.out).trans HB3.out
  have hn2 := later_some w2
  have x1 : ∀ e : Later w2, e.x.cell? ⟨g2, 2051, none⟩ = some (.int .u64 E) := fun e => by
    rw [e.h.cell (p := ⟨g2, 2051, none⟩) HF2.out.lt]
    exact (World.cell?_of_block (a := ⟨g2, 2051, none⟩) (w := w1) (HB3.out.block _ HF1.out.lt hne)).trans d1
  have x2 : ∀ e : Later w2, e.x.cell? ⟨g, 3079, none⟩ = some (.int .u64 E) := fun e => by
    rw [cell_of_row _ _ _ _ _ _ ((e.h.block _ (Array.getElem?_eq_some_iff.1 HG3.out).1).trans HG3.out), ep_get A _ _ hA]
  clear d1 d2 d3 HG1 HF1 HB1 HG2 HB3
  refine wp_region_later Try.follows (by kernel_rfl) ?_
  repeat (go_big_quiet_step (fail))
  refine wpQuiet_nil ?_
  rintro ⟨w3, hb3⟩
  dsimp only
  have HG4 : Hid (w3.heap[g]? = some (.cells (A ++ rkRow Rk.zero ++ #[.int .u64 E]) 64)) := (hb3.block _ (Array.getElem?_eq_some_iff.1 HG3.out).1).trans HG3.out
  have HF4 : Hid (RkAt w3 g2 2048 f) := HF2.out.later hb3
  have HB4 : Hid (But g w w3) := HB2.out.trans (But.of_below hb3)
  clear hb3 x1 x2 hn2 HG3 HF2 HB2
  go_wp2
  go_region_held3 (fun _ => True) (trivial)
    (first | (go_at_call 50; rw [← hA]; refine (rmerge_any g g2 2048 A #[.int .u64 E] Rk.zero f 64 w3.drew (Nat.zero_le _) HG4.out (HF4.out.later (Below.refl _ _).drew) hfn hne).mono ?_; rintro e w4 ⟨rfl, hg4, hb4⟩))
  go_wp2
  go_end0
  exact ⟨rfl, hg4, HB4.out.trans ((But.of_below (Below.refl _ _).drew).trans hb4)⟩

theorem mergeRanks_any (g g2 : Nat) (A : Array Value) (f : Rk) (E : Int) (w : World) (hE0 : 0 ≤ E) (hE1 : E ≤ 18446744073709551615) (hA : A.size = 3076) (hg : w.heap[g]? = some (.cells (A ++ rkRow Rk.zero ++ #[.int .u64 0]) 64)) (hf : RkAt w g2 2048 f) (he : w.cell? ⟨g2, 2051, none⟩ = some (.int .u64 E)) (hfn : f.n ≤ 2) (hne : g2 ≠ g) :
    Calls Try.prog 39 #[.pointer (some ⟨g, 1028, none⟩), .pointer (some ⟨g2, 0, none⟩)] w fun e w' => e = .returned (.tuple #[]) ∧ w'.heap[g]? = some (.cells (A ++ rkRow (Rk.zero.merge f) ++ #[.int .u64 E]) 64) ∧ But g w w' := by
  by_cases h : E = 0
  · subst h
    exact mergeRanks_0 g g2 A f w hA hg hf he hfn hne
  · exact mergeRanks_pos g g2 A f E w (by omega) hE1 hA hg hf he hfn hne
end Go.Proofs.Qxb6612204a
