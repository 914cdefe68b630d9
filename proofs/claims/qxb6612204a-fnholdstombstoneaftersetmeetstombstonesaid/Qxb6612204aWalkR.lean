import Derived.Test.Qxb6612204aWalkQ
namespace Go.Proofs.Qxb6612204a
open Go.RowKit Plain
set_option linter.unusedVariables false

theorem RkAt.but {w w2 : World} {g g2 o : Nat} {r : Rk} (h : RkAt w g2 o r) (hb : But g w w2) (hne : g2 ≠ g) : RkAt w2 g2 o r :=
  have e : w2.heap[g2]? = w.heap[g2]? := hb.block _ h.lt hne
  ⟨(World.cell?_of_block (a := ⟨g2, o, none⟩) (w := w) e).trans h.c0, (World.cell?_of_block (a := ⟨g2, o + 1, none⟩) (w := w) e).trans h.c1, (World.cell?_of_block (a := ⟨g2, o + 2, none⟩) (w := w) e).trans h.c2, by have := h.lt; have := hb.size; omega⟩

set_option maxHeartbeats 1000000 in
theorem rmerge_any (g g2 o2 : Nat) (A D : Array Value) (r f : Rk) (t : TypeId) (w : World) (hn : r.n ≤ 2) (hg : w.heap[g]? = some (.cells (A ++ rkRow r ++ D) t)) (hf : RkAt w g2 o2 f) (hfn : f.n ≤ 2) (hne : g2 ≠ g) :
    Calls Try.prog 50 #[.pointer (some ⟨g, A.size, none⟩), .pointer (some ⟨g2, o2, none⟩)] w fun e w' => e = .returned (.tuple #[]) ∧ w'.heap[g]? = some (.cells (A ++ rkRow (r.merge f) ++ D) t) ∧ But g w w' := by
  obtain ⟨f0, f1, n⟩ := f
  have HG : Hid _ := hg
  have HF : Hid _ := hf
  have hl := later_some w
  have c0 : ∀ e : Later w, e.x.cell? ⟨g2, o2, none⟩ = some (.int .u64 f0) := fun e => (HF.out.later e.h).c0
  have c1 : ∀ e : Later w, e.x.cell? ⟨g2, o2 + 1, none⟩ = some (.int .u64 f1) := fun e => (HF.out.later e.h).c1
  have c2 : ∀ e : Later w, e.x.cell? ⟨g2, o2 + 2, none⟩ = some (.int .i64 (n : Int)) := fun e => (HF.out.later e.h).c2
  have hn' : n ≤ 2 := hfn
  clear hg hf hfn
  rcases (by omega : n = 0 ∨ n = 1 ∨ n = 2) with rfl | rfl | rfl
  · go_enter Try.func50, Try.ntmps50
    go_wp2
    refine wp_region_later Try.follows (by kernel_rfl) ?_
    repeat (go_big_quiet_step (fail))
    refine wpQuiet_nil ?_
    rintro ⟨w1, hb1⟩
    dsimp only
    go_wp2
    go_rounds 1
    go_end0
    exact ⟨rfl, (hb1.block _ (Array.getElem?_eq_some_iff.1 HG.out).1).trans HG.out, But.of_below hb1⟩
  · go_enter Try.func50, Try.ntmps50
    go_wp2
    refine wp_region_later Try.follows (by kernel_rfl) ?_
    repeat (go_big_quiet_step (fail))
    refine wpQuiet_nil ?_
    rintro ⟨w1, hb1⟩
    dsimp only
    have HG1 : Hid (w1.heap[g]? = some (.cells (A ++ rkRow r ++ D) t)) := (hb1.block _ (Array.getElem?_eq_some_iff.1 HG.out).1).trans HG.out
    have HF1 : Hid _ := HF.out.later hb1
    have HB1 : Hid (But g w w1) := But.of_below hb1
    have k0 : w1.cell? ⟨g2, o2, none⟩ = some (.int .u64 f0) := c0 ⟨w1, hb1⟩
    clear c0 c1 c2 hl hb1 HG HF
    go_wp2_with fail
    refine wp_loop_rounds 2 ?_
    rw [rounds_succ]
    go_wp2_with fail
    refine (radd_any g A D r f0 t w1 hn HG1.out).mono ?_
    rintro e w2 ⟨rfl, hg2, hb2⟩
    have HG2 : Hid _ := hg2
    have HB2 : Hid _ := HB1.out.trans hb2
    have k1 : w2.cell? ⟨g2, o2 + 1, none⟩ = some (.int .u64 f1) := (HF1.out.but hb2 hne).c1
    clear hg2 hb2 HG1 HB1 HF1 k0
    go_wp2_with fail
    rw [rounds_succ]
    go_wp2
    go_end0
    exact ⟨rfl, HG2.out, HB2.out⟩
  · go_enter Try.func50, Try.ntmps50
    go_wp2
    refine wp_region_later Try.follows (by kernel_rfl) ?_
    repeat (go_big_quiet_step (fail))
    refine wpQuiet_nil ?_
    rintro ⟨w1, hb1⟩
    dsimp only
    have HG1 : Hid (w1.heap[g]? = some (.cells (A ++ rkRow r ++ D) t)) := (hb1.block _ (Array.getElem?_eq_some_iff.1 HG.out).1).trans HG.out
    have HF1 : Hid _ := HF.out.later hb1
    have HB1 : Hid (But g w w1) := But.of_below hb1
    have k0 : w1.cell? ⟨g2, o2, none⟩ = some (.int .u64 f0) := c0 ⟨w1, hb1⟩
    clear c0 c1 c2 hl hb1 HG HF
    go_wp2_with fail
    refine wp_loop_rounds 3 ?_
    rw [rounds_succ]
    go_wp2_with fail
    refine (radd_any g A D r f0 t w1 hn HG1.out).mono ?_
    rintro e w2 ⟨rfl, hg2, hb2⟩
    have HG2 : Hid _ := hg2
    have HB2 : Hid _ := HB1.out.trans hb2
    have k1 : w2.cell? ⟨g2, o2 + 1, none⟩ = some (.int .u64 f1) := (HF1.out.but hb2 hne).c1
    clear hg2 hb2 HG1 HB1 HF1 k0
    go_wp2_with fail
    rw [rounds_succ]
    go_wp2_with fail
    refine (radd_any g A D (r.add f0) f1 t w2 (Rk.add_le _ _ hn) HG2.out).mono ?_
    rintro e w3 ⟨rfl, hg3, hb3⟩
    have HG3 : Hid _ := hg3
    have HB3 : Hid _ := HB2.out.trans hb3
    clear hg3 hb3 HG2 HB2 k1
    go_wp2_with fail
    rw [rounds_succ]
    go_wp2
    go_end0
    exact ⟨rfl, HG3.out, HB3.out⟩
end Go.Proofs.Qxb6612204a
