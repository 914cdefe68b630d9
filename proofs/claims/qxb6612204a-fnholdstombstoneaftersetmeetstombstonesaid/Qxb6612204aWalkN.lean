import Derived.Test.Qxb6612204aWalkM
import Derived.Test.Qxb6612204aRk
import Derived.Handy
namespace Go.Proofs.Qxb6612204a
open Go.RowKit Plain
set_option linter.unusedVariables false

/-- the ranks at offset o of block g -/
structure RkAt (w : World) (g o : Nat) (r : Rk) : Prop where
  c0 : w.cell? ⟨g, o, none⟩ = some (.int .u64 r.r0)
  c1 : w.cell? ⟨g, o + 1, none⟩ = some (.int .u64 r.r1)
  c2 : w.cell? ⟨g, o + 2, none⟩ = some (.int .i64 (r.n : Int))
  lt : g < w.heap.size

theorem RkAt.later {w w2 : World} {g o : Nat} {r : Rk} (h : RkAt w g o r) (hb : Below w.heap.size w w2) : RkAt w2 g o r :=
  ⟨(hb.cell (p := ⟨g, o, none⟩) h.lt).trans h.c0, (hb.cell (p := ⟨g, o + 1, none⟩) h.lt).trans h.c1, (hb.cell (p := ⟨g, o + 2, none⟩) h.lt).trans h.c2, by have := h.lt; have := hb.size; omega⟩

set_option maxHeartbeats 1000000 in
theorem rholds_any (g o : Nat) (r : Rk) (v : Int) (w : World) (h : RkAt w g o r) (hn : r.n ≤ 2) :
    Calls Try.prog 42 #[.pointer (some ⟨g, o, none⟩), .int .u64 v] w fun e w' => e = .returned (.bool (r.has v)) ∧ Below w.heap.size w w' := by
  obtain ⟨r0, r1, n⟩ := r
  have hl := later_some w
  have c0 : ∀ e : Later w, e.x.cell? ⟨g, o, none⟩ = some (.int .u64 r0) := fun e => (h.later e.h).c0
  have c1 : ∀ e : Later w, e.x.cell? ⟨g, o + 1, none⟩ = some (.int .u64 r1) := fun e => (h.later e.h).c1
  have c2 : ∀ e : Later w, e.x.cell? ⟨g, o + 2, none⟩ = some (.int .i64 (n : Int)) := fun e => (h.later e.h).c2
  have hn' : n ≤ 2 := hn
  clear h hn
  rcases (by omega : n = 0 ∨ n = 1 ∨ n = 2) with rfl | rfl | rfl
  · go_enter Try.func42, Try.ntmps42
    go_wp2
    refine wp_region_later Try.follows (by kernel_rfl) ?_
    repeat (go_big_quiet_step (fail))
    refine wpQuiet_nil ?_
    rintro ⟨w1, hb1⟩
    dsimp only
    go_wp2
    go_rounds 1
    go_ret
    exact ⟨rfl, hb1⟩
  · by_cases e0 : r0 = v
    · have b0 : (r0 == v) = true := by simp [e0]
      go_enter Try.func42, Try.ntmps42
      go_wp2
      refine wp_region_later Try.follows (by kernel_rfl) ?_
      repeat (go_big_quiet_step (fail))
      refine wpQuiet_nil ?_
      rintro ⟨w1, hb1⟩
      dsimp only
      have k0 : w1.cell? ⟨g, o, none⟩ = some (.int .u64 r0) := c0 ⟨w1, hb1⟩
      have k1 : w1.cell? ⟨g, o + 1, none⟩ = some (.int .u64 r1) := c1 ⟨w1, hb1⟩
      clear c0 c1 c2 hl
      have HB : Hid _ := hb1
      clear hb1
      go_wp2
      go_rounds 1
      go_ret
      exact ⟨ret_bool (by simp [Rk.has, e0]), HB.out⟩
    · have b0 : (r0 == v) = false := by simp [e0]
      go_enter Try.func42, Try.ntmps42
      go_wp2
      refine wp_region_later Try.follows (by kernel_rfl) ?_
      repeat (go_big_quiet_step (fail))
      refine wpQuiet_nil ?_
      rintro ⟨w1, hb1⟩
      dsimp only
      have k0 : w1.cell? ⟨g, o, none⟩ = some (.int .u64 r0) := c0 ⟨w1, hb1⟩
      have k1 : w1.cell? ⟨g, o + 1, none⟩ = some (.int .u64 r1) := c1 ⟨w1, hb1⟩
      clear c0 c1 c2 hl
      have HB : Hid _ := hb1
      clear hb1
      go_wp2
      go_rounds 2
      go_ret
      exact ⟨ret_bool (by simp [Rk.has, e0]), HB.out⟩
  · by_cases e0 : r0 = v
    · have b0 : (r0 == v) = true := by simp [e0]
      go_enter Try.func42, Try.ntmps42
      go_wp2
      refine wp_region_later Try.follows (by kernel_rfl) ?_
      repeat (go_big_quiet_step (fail))
      refine wpQuiet_nil ?_
      rintro ⟨w1, hb1⟩
      dsimp only
      have k0 : w1.cell? ⟨g, o, none⟩ = some (.int .u64 r0) := c0 ⟨w1, hb1⟩
      have k1 : w1.cell? ⟨g, o + 1, none⟩ = some (.int .u64 r1) := c1 ⟨w1, hb1⟩
      clear c0 c1 c2 hl
      have HB : Hid _ := hb1
      clear hb1
      go_wp2
      go_rounds 1
      go_ret
      exact ⟨ret_bool (by simp [Rk.has, e0]), HB.out⟩
    · have b0 : (r0 == v) = false := by simp [e0]
      by_cases e1 : r1 = v
      · have b1 : (r1 == v) = true := by simp [e1]
        go_enter Try.func42, Try.ntmps42
        go_wp2
        refine wp_region_later Try.follows (by kernel_rfl) ?_
        repeat (go_big_quiet_step (fail))
        refine wpQuiet_nil ?_
        rintro ⟨w1, hb1⟩
        dsimp only
        have k0 : w1.cell? ⟨g, o, none⟩ = some (.int .u64 r0) := c0 ⟨w1, hb1⟩
        have k1 : w1.cell? ⟨g, o + 1, none⟩ = some (.int .u64 r1) := c1 ⟨w1, hb1⟩
        clear c0 c1 c2 hl
        have HB : Hid _ := hb1
        clear hb1
        go_wp2
        go_rounds 2
        go_ret
        exact ⟨ret_bool (by simp [Rk.has, e0, e1]), HB.out⟩
      · have b1 : (r1 == v) = false := by simp [e1]
        go_enter Try.func42, Try.ntmps42
        go_wp2
        refine wp_region_later Try.follows (by kernel_rfl) ?_
        repeat (go_big_quiet_step (fail))
        refine wpQuiet_nil ?_
        rintro ⟨w1, hb1⟩
        dsimp only
        have k0 : w1.cell? ⟨g, o, none⟩ = some (.int .u64 r0) := c0 ⟨w1, hb1⟩
        have k1 : w1.cell? ⟨g, o + 1, none⟩ = some (.int .u64 r1) := c1 ⟨w1, hb1⟩
        clear c0 c1 c2 hl
        have HB : Hid _ := hb1
        clear hb1
        go_wp2
        go_rounds 3
        go_ret
        exact ⟨ret_bool (by simp [Rk.has, e0, e1]), HB.out⟩
end Go.Proofs.Qxb6612204a
