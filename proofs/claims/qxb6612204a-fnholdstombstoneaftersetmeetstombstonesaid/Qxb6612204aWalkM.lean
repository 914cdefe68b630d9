import Derived.Test.Qxb6612204aWalkL
namespace Go.Proofs.Qxb6612204a
open Go.RowKit Plain
set_option linter.unusedVariables false

set_option maxHeartbeats 1000000 in
theorem zzcovers_any (g o g2 o2 : Nat) (a b : List UInt8) (w : World) (ha : a.length = 1024) (hb : b.length = 1024) (h1 : Seg w g o (bv a)) (h2 : Seg w g2 o2 (bv b)) (z1 : g < w.heap.size) (z2 : g2 < w.heap.size) :
    Calls Try.prog 12 #[.pointer (some ⟨g, o, none⟩), .pointer (some ⟨g2, o2, none⟩)] w fun e w' => e = .returned (.bool (coversL a b)) ∧ Below w.heap.size w w' := by
  have H1 : Hid (Seg w g o (bv a)) := h1
  have H2 : Hid (Seg w g2 o2 (bv b)) := h2
  clear h1 h2
  go_enter Try.func12, Try.ntmps12
  go_wp2
  go_loopw [5] (fun i wr => ∃ k : Nat, k ≤ 1024 ∧ i = .int .i64 k ∧ (∀ j, j < k → ¬ a.getD j 0 < b.getD j 0) ∧ Below w.heap.size w wr) (fun i _ => 1024 - (intOf i).toNat)
  case atStart => exact ⟨0, by omega, rfl, fun j hj => absurd hj (Nat.not_lt_zero _), Below.refl _ _⟩
  case round =>
    obtain ⟨k, hk, rfl, hall, hbl⟩ := hrel
    have HA : Hid (∀ j, j < k → ¬ a.getD j 0 < b.getD j 0) := hall
    have HB : Hid (Below w.heap.size w wr) := hbl
    clear hall hbl
    by_cases hlt : k < 1024
    · obtain ⟨x, hx⟩ : ∃ x, x = a.getD k 0 := ⟨_, rfl⟩
      obtain ⟨y, hy⟩ : ∃ y, y = b.getD k 0 := ⟨_, rfl⟩
      have hn := later_some wr
      have c1 : ∀ e : Later wr, e.x.cell? ⟨g, o + k, none⟩ = some (.int .u8 (x.toNat : Int)) := fun e => by
        rw [seg_cell (H1.out.below (HB.out.trans (e.h.mono HB.out.size)) z1) k (by omega), hx]
      have c2 : ∀ e : Later wr, e.x.cell? ⟨g2, o2 + k, none⟩ = some (.int .u8 (y.toNat : Int)) := fun e => by
        rw [seg_cell (H2.out.below (HB.out.trans (e.h.mono HB.out.size)) z2) k (by omega), hy]
      have HX : Hid (x = a.getD k 0) := hx
      have HY : Hid (y = b.getD k 0) := hy
      have hlt' : (k : Int) < 1024 := by omega
      have HLT : Hid (k < 1024) := hlt
      clear hx hy hlt hk ha hb
      by_cases hc : x < y
      · have hd : decide (x.toNat < y.toNat) = true := decide_eq_true (UInt8.lt_iff_toNat_lt.1 hc)
        have hc' : (x.toNat : Int) < (y.toNat : Int) := by have := UInt8.lt_iff_toNat_lt.1 hc; omega
        have HC : Hid (x < y) := hc
        clear hc
        go_wp2
        refine wp_region_later Try.follows (by kernel_rfl) ?_
        repeat (go_big_quiet_step (fail))
        refine wpQuiet_nil ?_
        rintro ⟨w1, hb1⟩
        dsimp only
        have HB1 : Hid _ := HB.out.trans (hb1.mono HB.out.size)
        clear hb1 HB c1 c2 hn
        go_wp2
        go_ret
        exact ⟨ret_bool (coversL_false k HLT.out (by rw [← HX.out, ← HY.out]; exact HC.out)).symm, HB1.out⟩
      · have hd : decide (x.toNat < y.toNat) = false := decide_eq_false (fun q => hc (UInt8.lt_iff_toNat_lt.2 q))
        have hd2 : decide ((x.toNat : Int) < (y.toNat : Int)) = false := decide_eq_false (fun q => hc (UInt8.lt_iff_toNat_lt.2 (by omega)))
        have HC : Hid (¬ x < y) := hc
        clear hc
        go_wp2
        refine wp_region_later Try.follows (by kernel_rfl) ?_
        repeat (go_big_quiet_step (fail))
        refine wpQuiet_nil ?_
        rintro ⟨w1, hb1⟩
        dsimp only
        have HB1 : Hid _ := HB.out.trans (hb1.mono HB.out.size)
        clear hb1 HB c1 c2 hn
        go_wp2
        go_roundw
        case rel => exact ⟨k + 1, by have := HLT.out; omega, by go_num, fun j hj => by
          by_cases e : j = k
          · rw [e, ← HX.out, ← HY.out]; exact HC.out
          · exact HA.out j (by omega), HB1.out⟩
        case measure => simp [intOf]; omega
    · obtain rfl : k = 1024 := by omega
      go_wp2
      go_ret
      exact ⟨ret_bool (coversL_true HA.out).symm, HB.out⟩

set_option maxHeartbeats 1000000 in
theorem reached_any (g o : Nat) (T R : List UInt8) (w : World) (hT : T.length = 1024) (hR : R.length = 1024) (h1 : Seg w g o (bv T)) (h2 : Seg w g (o + 1024) (bv R)) (z : g < w.heap.size) :
    Calls Try.prog 36 #[.pointer (some ⟨g, o, none⟩)] w fun e w' => e = .returned (.bool (coversL R T)) ∧ Below w.heap.size w w' := by
  have hn := later_some w
  have c1 : Hid (∀ e : Later w, Seg e.x g o (bv T)) := fun e => h1.below e.h z
  have c2 : Hid (∀ e : Later w, Seg e.x g (o + 1024) (bv R)) := fun e => h2.below e.h z
  clear h1 h2
  go_enter Try.func36, Try.ntmps36
  go_wp2
  refine wp_region_later Try.follows (by kernel_rfl) ?_
  repeat (go_big_quiet_step ((go_at_call 47; exact later_call _ ((covers_any g (o + 1024) g o R T _ hR hT (c2.out _) (c1.out _)).mono fun e w' ⟨he, hw⟩ => ⟨he, by rw [hw]; exact Below.refl _ _⟩))))
  refine wpQuiet_nil ?_
  rintro ⟨w1, hb1⟩
  dsimp only
  go_wp2
  go_ret
  exact ⟨rfl, hb1⟩
end Go.Proofs.Qxb6612204a
