import Derived.Test.Qxb6612204aWalkR
namespace Go.Proofs.Qxb6612204a
open Go.RowKit Plain
set_option linter.unusedVariables false

/-- the last four cells of a state: its ranks and its epoch -/
theorem ep_get (A : Array Value) (r : Rk) (ep : Int) (hA : A.size = 3076) : (A ++ rkRow r ++ #[.int .u64 ep])[3079]? = some (.int .u64 ep) := by
  rw [Array.getElem?_append_right (by simp [rkRow, hA])]
  simp [rkRow, hA]
theorem ep_set (A : Array Value) (r : Rk) (ep e2 : Int) (hA : A.size = 3076) : (A ++ rkRow r ++ #[Value.int .u64 ep]).setIfInBounds 3079 (Value.int .u64 e2) = A ++ rkRow r ++ #[Value.int .u64 e2] := by
  rw [Array.setIfInBounds_append_right (by simp [rkRow, hA])]
  simp [rkRow, hA]

set_option maxHeartbeats 1000000 in
theorem mergeRanks_0 (g g2 : Nat) (A : Array Value) (f : Rk) (w : World) (hA : A.size = 3076) (hg : w.heap[g]? = some (.cells (A ++ rkRow Rk.zero ++ #[.int .u64 0]) 64)) (hf : RkAt w g2 2048 f) (he : w.cell? ⟨g2, 2051, none⟩ = some (.int .u64 0)) (hfn : f.n ≤ 2) (hne : g2 ≠ g) :
    Calls Try.prog 39 #[.pointer (some ⟨g, 1028, none⟩), .pointer (some ⟨g2, 0, none⟩)] w fun e w' => e = .returned (.tuple #[]) ∧ w'.heap[g]? = some (.cells (A ++ rkRow (Rk.zero.merge f) ++ #[.int .u64 0]) 64) ∧ But g w w' := by
  have hl := later_some w
  have hgs : g < w.heap.size := (Array.getElem?_eq_some_iff.1 hg).1
  have c1 : ∀ e : Later w, e.x.cell? ⟨g2, 2051, none⟩ = some (.int .u64 0) := fun e => (e.h.cell (p := ⟨g2, 2051, none⟩) hf.lt).trans he
  have c2 : ∀ e : Later w, e.x.cell? ⟨g, 3079, none⟩ = some (.int .u64 0) := fun e => by
    rw [cell_of_row _ _ _ _ _ _ ((e.h.block _ hgs).trans hg), ep_get A _ _ hA]
  have HG : Hid _ := hg
  have HF : Hid _ := hf
  clear hg hf he
  go_enter Try.func39, Try.ntmps39
  go_wp2
  refine wp_region_later Try.follows (by kernel_rfl) ?_
  repeat (go_big_quiet_step (fail))
  refine wpQuiet_nil ?_
  rintro ⟨w1, hb1⟩
  dsimp only
  have HG1 : Hid (w1.heap[g]? = some (.cells (A ++ rkRow Rk.zero ++ #[.int .u64 0]) 64)) := (hb1.block _ hgs).trans HG.out
  have HF1 : Hid (RkAt w1 g2 2048 f) := HF.out.later hb1
  have HB1 : Hid (Below w.heap.size w w1) := hb1
  have hn1 := later_some w1
  have d1 : ∀ e : Later w1, e.x.cell? ⟨g2, 2051, none⟩ = some (.int .u64 0) := fun e => c1 ⟨e.x, hb1.trans (e.h.mono hb1.size)⟩
  have d2 : ∀ e : Later w1, e.x.cell? ⟨g, 3079, none⟩ = some (.int .u64 0) := fun e => c2 ⟨e.x, hb1.trans (e.h.mono hb1.size)⟩
  clear c1 c2 hl hb1 HG HF hgs
  go_wp2
  refine wp_region_later Try.follows (by kernel_rfl) ?_
  repeat (go_big_quiet_step (fail))
  refine wpQuiet_nil ?_
  rintro ⟨w2, hb2⟩
  dsimp only
  have HG2 : Hid (w2.heap[g]? = some (.cells (A ++ rkRow Rk.zero ++ #[.int .u64 0]) 64)) := (hb2.block _ (Array.getElem?_eq_some_iff.1 HG1.out).1).trans HG1.out
  have HF2 : Hid (RkAt w2 g2 2048 f) := HF1.out.later hb2
  have HB2 : Hid (But g w w2) := (But.of_below HB1.out).trans (But.of_below hb2)
  clear hb2 d1 d2 hn1 HG1 HF1 HB1
  go_wp2
  go_region_held3 (fun _ => True) (trivial)
    (first | (go_at_call 50; rw [← hA]; refine (rmerge_any g g2 2048 A #[.int .u64 0] Rk.zero f 64 w2.drew (Nat.zero_le _) HG2.out (HF2.out.later (Below.refl _ _).drew) hfn hne).mono ?_; rintro e w3 ⟨rfl, hg3, hb3⟩))
  go_wp2
  go_end0
  exact ⟨rfl, hg3, HB2.out.trans ((But.of_below (Below.refl _ _).drew).trans hb3)⟩
end Go.Proofs.Qxb6612204a
