import Derived.Test.Qxb6612204aWalkH
namespace Go.Proofs.Qxb6612204a
open Go.RowKit Plain
set_option linter.unusedVariables false

theorem st_holds (node set : ByteArray) (rank holds h2 : Int) (rec : List UInt8) (tomb : Array Value) : (stRow node set rank holds rec tomb).setIfInBounds 3 (.int .i64 h2) = stRow node set rank h2 rec tomb := by
  unfold stRow
  rw [Array.append_assoc, Array.append_assoc, Array.setIfInBounds_append_left (by simp)]
  rfl
theorem st_get (node set : ByteArray) (rank holds : Int) (rec : List UInt8) (tomb : Array Value) (k : Nat) (hk : k < 4) :
    (stRow node set rank holds rec tomb)[k]? = (#[Value.string node, .string set, .int .u64 rank, .int .i64 holds] : Array Value)[k]? := by
  unfold stRow
  rw [Array.append_assoc, Array.getElem?_append_left (by simpa using hk)]

set_option maxHeartbeats 1000000 in
theorem receive_any (g g2 : Nat) (node set : ByteArray) (rank holds : Int) (rec m : List UInt8) (tomb : Array Value) (w : World) (hh : (holds == 2) = false) (hs : node.size ≤ maxLen)
    (hr : rec.length = 1024) (hm : m.length = 1024) (hg : w.heap[g]? = some (.cells (stRow node set rank holds rec tomb) 64)) (h2 : Seg w g2 0 (bv m)) (hne : g2 ≠ g) :
    Calls Try.prog 26 #[.pointer (some ⟨g, 0, none⟩), .pointer (some ⟨g2, 0, none⟩)] w fun e w' => e = .returned (.bool true) ∧
      w'.heap[g]? = some (.cells (stRow node set rank 1 (addL (maxL rec m) (Plain.hash node.data.toList)) tomb) 64) ∧ But g w w' := by
  have hc : w.cell? ⟨g, 3, none⟩ = some (.int .i64 holds) := by rw [cell_of_row _ _ _ _ _ _ hg, st_get _ _ _ _ _ _ 3 (by omega)]; rfl
  have hf : w.frozen? ⟨g, 3, none⟩ = false := frozen_of_row _ _ _ _ _ hg
  have HG1 : Hid ((w.setCell ⟨g, 3, none⟩ (.int .i64 1)).heap[g]? = some (.cells (stRow node set rank 1 rec tomb) 64)) := by
    show _ = _
    rw [heap_setCell_same _ _ _ _ _ _ hg, st_holds]
  have HS1 : Hid (Seg (w.setCell ⟨g, 3, none⟩ (.int .i64 1)) g2 0 (bv m)) := fun j hj => by
    rw [← h2 j hj]
    exact World.cell?_of_block (w := w) (heap_setCell_other _ _ _ _ hne)
  clear hg h2
  go_enter Try.func26, Try.ntmps26
  go_wp2_with fail
  refine (merge_any g 4 g2 0 #[.string node, .string set, .int .u64 rank, .int .i64 1] tomb rec m 64 _ rfl hr hm HG1.out HS1.out).mono ?_
  rintro e w2 ⟨rfl, hg2, hb2⟩
  have HB2 : Hid (But g w w2) := (But.setCell _ _ _ _).trans hb2
  have hc2 : w2.cell? ⟨g, 0, none⟩ = some (.string node) := by rw [cell_of_row _ _ _ _ _ _ hg2]; exact st_get node set rank 1 _ tomb 0 (by omega)
  have HG2 : Hid _ := hg2
  clear hg2 hb2 HG1 HS1 hc hf
  go_wp2_with fail
  go_region_held3 (fun w' => w'.cell? ⟨g, 0, none⟩ = some (.string node)) (first | exact hc2 | exact hc3)
    (first | (go_at_call 38; refine (add_any g 4 #[.string node, .string set, .int .u64 rank, .int .i64 1] tomb (maxL rec m) 64 node _ hs rfl ?_ ?_).mono ?_; (rw [maxL_len _ _ (by omega), hr]); (exact HG2.out); rintro e w3 ⟨rfl, hg3, hb3⟩; have hc3 : w3.cell? ⟨g, 0, none⟩ = some (.string node) := by rw [cell_of_row _ _ _ _ _ _ hg3]; exact st_get node set rank 1 _ tomb 0 (by omega)))
  go_wp2
  go_ret
  exact ⟨rfl, hg3, HB2.out.trans ((But.of_below (Below.refl _ _).drew).trans hb3)⟩
end Go.Proofs.Qxb6612204a
