import Derived.Test.Qxb6612204aWalkC
import Derived.Test.Qxb6612204aRegs
namespace Go.Proofs.Qxb6612204a
open Go.RowKit Plain
set_option linter.unusedVariables false

/-- Of the blocks that were there, block g alone may have turned. -/
structure But (g : Nat) (w w' : World) : Prop where
  os : w'.os = w.os
  tape : w'.tape = w.tape
  output : w'.output = w.output
  size : w.heap.size ≤ w'.heap.size
  block : ∀ k, k < w.heap.size → k ≠ g → w'.heap[k]? = w.heap[k]?

namespace But
variable {g : Nat} {a b c : World}
theorem refl (g : Nat) (w : World) : But g w w := ⟨rfl, rfl, rfl, Nat.le_refl _, fun _ _ _ => rfl⟩
theorem trans (h : But g a b) (k : But g b c) : But g a c :=
  ⟨k.os.trans h.os, k.tape.trans h.tape, k.output.trans h.output, Nat.le_trans h.size k.size, fun i hi hg => (k.block i (Nat.lt_of_lt_of_le hi h.size) hg).trans (h.block i hi hg)⟩
theorem of_below (h : Below a.heap.size a b) : But g a b := ⟨h.os, h.tape, h.output, h.size, fun i hi _ => h.block i hi⟩
theorem below {B : Nat} (h : But g a b) (hB : B ≤ g) (hs : B ≤ a.heap.size) : Below B a b := ⟨h.os, h.tape, h.output, h.size, fun i hi => h.block i (by omega) (by omega)⟩
theorem setRow (w : World) (g : Nat) (cs : Array Value) : But g w (w.setRow g cs) := ⟨rfl, rfl, rfl, by simp, fun k _ hk => setRow_other _ _ _ _ hk⟩
theorem setCell (w : World) (g i : Nat) (v : Value) : But g w (w.setCell ⟨g, i, none⟩ v) := ⟨rfl, rfl, rfl, by simp, fun k _ hk => heap_setCell_other _ _ _ _ hk⟩
end But

theorem row_get (A D : Array Value) (l : List UInt8) (j : Nat) (hj : j < l.length) : (A ++ bv l ++ D)[A.size + j]? = some (.int .u8 ((l.getD j 0).toNat : Int)) := by
  rw [Array.getElem?_append_left (by simp [bv_size]; omega), Array.getElem?_append_right (by omega), Nat.add_sub_cancel_left, bv_get l j hj]
theorem bv_set (l : List UInt8) (j : Nat) (c : UInt8) : (bv l).setIfInBounds j (.int .u8 (c.toNat : Int)) = bv (l.set j c) := by
  apply Array.ext'
  simp [bv, List.map_set]
theorem row_set (A D : Array Value) (l : List UInt8) (j : Nat) (c : UInt8) (hj : j < l.length) : (A ++ bv l ++ D).setIfInBounds (A.size + j) (.int .u8 (c.toNat : Int)) = A ++ bv (l.set j c) ++ D := by
  rw [← bv_set]
  apply Array.ext'
  simp only [Array.toList_setIfInBounds, Array.toList_append]
  rw [List.append_assoc, List.set_append_right _ _ (by simp), List.append_assoc]
  congr 1
  simp only [Array.length_toList, Nat.add_sub_cancel_left]
  rw [List.set_append_left _ _ (by simp [bv_size]; exact hj)]

theorem index_bv (l : List UInt8) (hl : l.length = 1024) (k : Nat) (hk : k < 1024) (w : World) : (Instr.index 22 (.agg (bv l)) (.int .i64 (k : Int))).run Try.prog w = .ok (.int .u8 ((l.getD k 0).toNat : Int)) w := by
  have hs : (sizeOf 5).run Try.prog w = .ok 1 w := Try.sizeOf5 w
  have hk' : (k : Int) < ((1024 : Nat) : Int) := by omega
  unfold Instr.index
  simp only [asIntOf, Sem.run_bind, Sem.run_pure, Result.andThen_ok, run_underlying Try.underlying22]
  rw [if_pos ⟨by omega, hk'⟩]
  simp only [Sem.run_bind, hs, Result.andThen_ok, Int.toNat_natCast, Nat.mul_one]
  exact part_bv w 5 Try.underlying5 l k (by omega)

theorem Try.info22 : (Try.prog.info? 22).map (·.size) = some 1024 := by kernel_rfl

set_option maxHeartbeats 400000 in
theorem merge_any (g o g2 o2 : Nat) (A D : Array Value) (l m : List UInt8) (t : TypeId) (w : World) (hA : A.size = o) (hl : l.length = 1024) (hm : m.length = 1024)
    (hg : w.heap[g]? = some (.cells (A ++ bv l ++ D) t)) (h2 : Seg w g2 o2 (bv m)) :
    Calls Try.prog 37 #[.pointer (some ⟨g, o, none⟩), .pointer (some ⟨g2, o2, none⟩)] w fun e w' => e = .returned (.tuple #[]) ∧
      w'.heap[g]? = some (.cells (A ++ bv (maxL l m) ++ D) t) ∧ But g w w' := by
  subst hA
  have H2 : Hid (Seg w g2 o2 (bv m)) := h2
  have HG : Hid (w.heap[g]? = some (.cells (A ++ bv l ++ D) t)) := hg
  clear h2 hg
  go_enter Try.func37, Try.ntmps37
  go_wp2_with (first | (refine wpList_load_seg rfl 22 (.tmp 8) rfl _ _ rfl (bv m) _ (by exact H2.out) Try.underlying22 rfl (by rw [Try.info22, bv_size, hm]) ?_))
  go_loopw [10] (fun i wr => ∃ k : Nat, k ≤ 1024 ∧ i = .int .i64 k ∧ wr.heap[g]? = some (.cells (A ++ bv (maxTo l m k) ++ D) t) ∧ But g w wr) (fun i _ => 1024 - (intOf i).toNat)
  case atStart => exact ⟨0, by omega, rfl, by rw [maxTo_zero]; exact HG.out, But.refl _ _⟩
  case round =>
    obtain ⟨k, hk, rfl, hr, hb⟩ := hrel
    have HR : Hid (wr.heap[g]? = some (.cells (A ++ bv (maxTo l m k) ++ D) t)) := hr
    have HB : Hid (But g w wr) := hb
    have hlm : l.length = m.length := by omega
    have HLM : Hid (l.length = m.length) := hlm
    clear hr hb HG H2 hlm
    by_cases hlt : k < 1024
    · have hix := index_bv m hm k hlt
      have hcl : wr.cell? ⟨g, A.size + k, none⟩ = some (.int .u8 ((l.getD k 0).toNat : Int)) := by
        rw [cell_of_row _ _ _ _ _ _ HR.out, row_get _ _ _ _ (by rw [maxTo_len _ _ HLM.out _ (by omega)]; omega), maxTo_get _ _ HLM.out _ (by omega)]
      have hfr : wr.frozen? ⟨g, A.size + k, none⟩ = false := frozen_of_row _ _ _ _ _ HR.out
      by_cases hc : l.getD k 0 < m.getD k 0
      · have hst : Hid (maxTo l m (k + 1) = (maxTo l m k).set k (m.getD k 0)) := by
          show _ = _
          rw [maxTo_succ l m HLM.out k (by omega)]; simp only [umax, hc, if_true]
        obtain ⟨x, hx⟩ : ∃ x, x = l.getD k 0 := ⟨_, rfl⟩
        obtain ⟨y, hy⟩ : ∃ y, y = m.getD k 0 := ⟨_, rfl⟩
        rw [← hx] at hcl hc
        rw [← hy] at hix hc hst
        have hc' : (x.toNat : Int) < (y.toNat : Int) := by have := UInt8.lt_iff_toNat_lt.1 hc; omega
        have hlt' : (k : Int) < 1024 := by omega
        have HLT : Hid (k < 1024) := hlt
        have HHL : Hid (l.length = 1024) := hl
        clear hx hy hc hlt hk hl hm
        go_wp2
        go_roundw
        case rel =>
          refine ⟨k + 1, by omega, by go_num, ?_, HB.out.trans (But.setCell _ _ _ _)⟩
          rw [hst.out, heap_setCell_same _ _ _ _ _ _ HR.out, row_set _ _ _ _ _ (by have := HLT.out; have := HHL.out; rw [maxTo_len _ _ HLM.out _ (by omega)]; omega)]
        case measure => simp [intOf]; omega
      · have hst : Hid (maxTo l m (k + 1) = maxTo l m k) := maxTo_same l m HLM.out k (by omega) hc
        obtain ⟨x, hx⟩ : ∃ x, x = l.getD k 0 := ⟨_, rfl⟩
        obtain ⟨y, hy⟩ : ∃ y, y = m.getD k 0 := ⟨_, rfl⟩
        rw [← hx] at hcl hc
        rw [← hy] at hix hc
        have hc' : ¬ (x.toNat : Int) < (y.toNat : Int) := by have : ¬ x.toNat < y.toNat := fun q => hc (UInt8.lt_iff_toNat_lt.2 q); omega
        have hlt' : (k : Int) < 1024 := by omega
        have HLT : Hid (k < 1024) := hlt
        have HHL : Hid (l.length = 1024) := hl
        clear hx hy hc hlt hk hl hm
        go_wp2
        go_roundw
        case rel => exact ⟨k + 1, by omega, by go_num, by rw [hst.out]; exact HR.out, HB.out⟩
        case measure => simp [intOf]; omega
    · obtain rfl : k = 1024 := by omega
      go_wp2
      go_end0
      refine ⟨rfl, ?_, HB.out⟩
      have := HR.out
      rw [← hl, maxTo_all l m HLM.out] at this
      exact this
end Go.Proofs.Qxb6612204a
