import Derived.Test.Qxb6612204aWalkG
namespace Go.Proofs.Qxb6612204a
open Go.RowKit Plain
set_option linter.unusedVariables false

/-- the three rows of zzMax's own -/
structure M3 (w : World) (l b : List UInt8) (wr : World) : Prop where
  a : wr.heap[w.heap.size]? = some (.cells (bv l) 22)
  b : wr.heap[w.heap.size + 1]? = some (.cells (bv b) 22)
  r : wr.heap[w.heap.size + 2]? = some (.cells (bv zeros) 22)
  below : Below w.heap.size w wr

namespace M3
variable {w wr w2 : World} {l b : List UInt8}
theorem size (h : M3 w l b wr) : w.heap.size + 2 < wr.heap.size := (Array.getElem?_eq_some_iff.1 h.r).1
theorem later (h : M3 w l b wr) (hb : Below wr.heap.size wr w2) : M3 w l b w2 :=
  ⟨(hb.block _ (by have := h.size; omega)).trans h.a, (hb.block _ (by have := h.size; omega)).trans h.b, (hb.block _ (by have := h.size; omega)).trans h.r, h.below.trans (hb.mono h.below.size)⟩
theorem cellA (h : M3 w l b wr) (k : Nat) (hk : k < l.length) : wr.cell? ⟨w.heap.size, k, none⟩ = some (.int .u8 ((l.getD k 0).toNat : Int)) := by
  rw [cell_of_row _ _ _ _ _ _ h.a, bv_get _ _ hk]
theorem cellB (h : M3 w l b wr) (k : Nat) (hk : k < b.length) : wr.cell? ⟨w.heap.size + 1, k, none⟩ = some (.int .u8 ((b.getD k 0).toNat : Int)) := by
  rw [cell_of_row _ _ _ _ _ _ h.b, bv_get _ _ hk]
theorem set (h : M3 w l b wr) (k : Nat) (c : UInt8) : M3 w (l.set k c) b (wr.setCell ⟨w.heap.size, k, none⟩ (.int .u8 (c.toNat : Int))) :=
  ⟨by rw [heap_setCell_same _ _ _ _ _ _ h.a, bv_set], (heap_setCell_other _ _ _ _ (by simp)).trans h.b, (heap_setCell_other _ _ _ _ (by simp)).trans h.r, h.below.setCell (Nat.le_refl _) _⟩
end M3

theorem m3_start (w : World) (a b : List UInt8) : M3 w a b (((w.alloc (.cells (bv a) 22)).alloc (.cells (bv b) 22)).alloc (.cells (bv zeros) 22)) := by
  refine ⟨?_, ?_, ?_, (((Below.refl _ _).alloc (Nat.le_refl _) _).alloc (by simp) _).alloc (by simp; omega) _⟩
  · rw [Below.heap_alloc _ _ _ (by simp; omega), Below.heap_alloc _ _ _ (by simp), heap_alloc_new]
  · rw [Below.heap_alloc _ _ _ (by simp), heap_alloc2_new]
  · have := heap_alloc_new ((w.alloc (.cells (bv a) 22)).alloc (.cells (bv b) 22)) (.cells (bv zeros) 22)
    simpa using this

set_option maxHeartbeats 1000000 in
theorem zzmax_any (a b : List UInt8) (w : World) (ha : a.length = 1024) (hb : b.length = 1024) :
    Calls Try.prog 28 #[.agg (bv a), .agg (bv b)] w fun e w' => e = .returned (.agg (bv (maxL a b))) ∧ Below w.heap.size w w' := by
  have hlm : a.length = b.length := by omega
  have HLM : Hid (a.length = b.length) := hlm
  clear hlm
  go_enter Try.func28, Try.ntmps28
  go_wp2_with (first | (refine wpList_alloc_row rfl 22 rfl (.agg (bv zeros)) zero22 ?_; rw [cells_agg]; simp only [Act.put, List.setIfInBounds_toArray, List.set_cons_succ, List.set_cons_zero, World.size_alloc, Nat.add_assoc, Nat.reduceAdd]))
  go_loopw [5] (fun i wr => ∃ k : Nat, k ≤ 1024 ∧ i = .int .i64 k ∧ M3 w (maxTo a b k) b wr) (fun i _ => 1024 - (intOf i).toNat)
  case atStart => exact ⟨0, by omega, rfl, by rw [maxTo_zero]; exact m3_start w a b⟩
  case round =>
    obtain ⟨k, hk, rfl, hM⟩ := hrel
    have HM : Hid (M3 w (maxTo a b k) b wr) := hM
    clear hM
    by_cases hlt : k < 1024
    · obtain ⟨x, hx⟩ : ∃ x, x = a.getD k 0 := ⟨_, rfl⟩
      obtain ⟨y, hy⟩ : ∃ y, y = b.getD k 0 := ⟨_, rfl⟩
      have hn := later_some wr
      have c1 : ∀ e : Later wr, e.x.cell? ⟨w.heap.size, k, none⟩ = some (.int .u8 (x.toNat : Int)) := fun e => by
        rw [(HM.out.later e.h).cellA k (by rw [maxTo_len _ _ HLM.out _ (by omega)]; omega), maxTo_get _ _ HLM.out _ (by omega), hx]
      have c2 : ∀ e : Later wr, e.x.cell? ⟨w.heap.size + 1, k, none⟩ = some (.int .u8 (y.toNat : Int)) := fun e => by
        rw [(HM.out.later e.h).cellB k (by omega), hy]
      by_cases hc : x < y
      · have hst : Hid (maxTo a b (k + 1) = (maxTo a b k).set k y) := by
          show _ = _
          rw [maxTo_succ a b HLM.out k (by omega)]; simp only [umax, ← hx, ← hy, hc, if_true]
        have hc' : (x.toNat : Int) < (y.toNat : Int) := by have := UInt8.lt_iff_toNat_lt.1 hc; omega
        have hlt' : (k : Int) < 1024 := by omega
        have HLT : Hid (k < 1024) := hlt
        clear hx hy hc hlt hk ha hb
        go_wp2
        refine wp_region_later Try.follows (by kernel_rfl) ?_
        repeat (go_big_quiet_step (fail))
        refine wpQuiet_nil ?_
        rintro ⟨w1, hb1⟩
        dsimp only
        have HM1 : Hid _ := HM.out.later hb1
        have c1' : w1.cell? ⟨w.heap.size, k, none⟩ = some (.int .u8 (x.toNat : Int)) := c1 ⟨w1, hb1⟩
        have c2' : w1.cell? ⟨w.heap.size + 1, k, none⟩ = some (.int .u8 (y.toNat : Int)) := c2 ⟨w1, hb1⟩
        have hfr : w1.frozen? ⟨w.heap.size, k, none⟩ = false := frozen_of_row _ _ _ _ _ HM1.out.a
        clear c1 c2 hn HM hb1
        go_wp2
        go_roundw
        case rel => exact ⟨k + 1, by have := HLT.out; omega, by go_num, by rw [hst.out]; exact HM1.out.set k y⟩
        case measure => simp [intOf]; omega
      · have hst : Hid (maxTo a b (k + 1) = maxTo a b k) := maxTo_same a b HLM.out k (by omega) (by rw [← hx, ← hy]; exact hc)
        have hd : decide (x.toNat < y.toNat) = false := decide_eq_false (fun q => hc (UInt8.lt_iff_toNat_lt.2 q))
        have hd2 : decide ((x.toNat : Int) < (y.toNat : Int)) = false := decide_eq_false (fun q => hc (UInt8.lt_iff_toNat_lt.2 (by omega)))
        have hlt' : (k : Int) < 1024 := by omega
        have HLT : Hid (k < 1024) := hlt
        clear hx hy hc hlt hk ha hb
        go_wp2
        refine wp_region_later Try.follows (by kernel_rfl) ?_
        repeat (go_big_quiet_step (fail))
        refine wpQuiet_nil ?_
        rintro ⟨w1, hb1⟩
        dsimp only
        have HM1 : Hid _ := HM.out.later hb1
        clear c1 c2 hn HM hb1
        go_wp2
        go_roundw
        case rel => exact ⟨k + 1, by have := HLT.out; omega, by go_num, by rw [hst.out]; exact HM1.out⟩
        case measure => simp [intOf]; omega
    · obtain rfl : k = 1024 := by omega
      have HM2 : Hid (M3 w (maxL a b) b wr) := by
        have := HM.out
        rw [← ha, maxTo_all a b HLM.out] at this
        exact this
      have hml : (maxL a b).length = 1024 := by rw [maxL_len _ _ HLM.out, ha]
      clear HM
      go_wp2_with (first
        | (refine wpList_load_seg rfl 22 (.tmp 2) rfl _ _ rfl (bv (maxL a b)) _ ?_ Try.underlying22 rfl ?_ ?_; (exact seg_row HM2.out.a); (rw [Try.info22, bv_size, hml]); simp only [Act.put, List.setIfInBounds_toArray, List.set_cons_succ, List.set_cons_zero])
        | (refine wpList_store_seg rfl 22 (.tmp 4) (.tmp 22) rfl _ _ (bv (maxL a b)) rfl rfl _ _ (by exact HM2.out.r) (by rw [Try.info22, bv_size, hml]) (by rw [bv_size, bv_size, hml, zeros_len]; omega) (bv_one _) ?_))
      refine bodyPost_ret (v := .agg (bv (maxL a b))) ?_ rfl ⟨rfl, ?_⟩
      · refine results_cell_row (P := Try.prog) rfl _ _ (w.heap.size + 2) 22 (bv (maxL a b)) (0, 0) _ rfl ?_ Try.underlying22 rfl (by rw [Try.info22, bv_size, hml])
        have e := over_all (bv zeros) (bv (maxL a b)) (by rw [bv_size, bv_size, hml, zeros_len])
        exact (setRow_heap _ _ _ _ _ _ HM2.out.r).trans (by rw [e])
      · exact HM2.out.below.trans ⟨rfl, rfl, rfl, by simp, fun q hq => setRow_other _ _ _ _ (by omega)⟩
end Go.Proofs.Qxb6612204a
