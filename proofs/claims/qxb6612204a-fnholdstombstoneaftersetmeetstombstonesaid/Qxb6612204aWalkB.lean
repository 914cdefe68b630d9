import Derived.Test.Qxb6612204aWalkA
namespace Go.Proofs.Qxb6612204a
open Go.RowKit Plain
set_option linter.unusedVariables false

set_option maxHeartbeats 400000 in
theorem sum64_any (g : Nat) (h : Int) (w : World) (hg : w.heap[g]? = some (.cells #[.int .u64 h] 91)) :
    Calls Try.prog 75 #[.pointer (some ⟨g, 0, none⟩)] w fun e w' => e = .returned (.int .u64 h) ∧ w' = w := by
  have hc : w.cell? ⟨g, 0, none⟩ = some (.int .u64 h) := (cell_of_row w g 0 _ _ _ hg).trans rfl
  clear hg
  go_enter Try.func75, Try.ntmps75
  go_wp2
  go_ret
  exact ⟨rfl, rfl⟩

theorem fnv_take (h : Int) (l : List UInt8) (k : Nat) (hk : k < l.length) : fnv h (l.take (k + 1)) = fstep (fnv h (l.take k)) (l.getD k 0) := by
  rw [List.take_succ_eq_append_getElem hk, fnv_snoc]
  simp [List.getD, hk]

set_option maxHeartbeats 400000 in
theorem write_any (g b : Nat) (h : Int) (l : List UInt8) (cap : Nat) (w : World) (hl : l.length ≤ 9223372036854775807) (h0 : 0 ≤ h) (h1 : h ≤ 18446744073709551615)
    (hg : w.heap[g]? = some (.cells #[.int .u64 h] 91)) (hb : Seg w b 0 (bv l)) :
    Calls Try.prog 76 #[.pointer (some ⟨g, 0, none⟩), .slice (some ⟨b, 0, none⟩) l.length cap] w fun e w' => e = .returned (.tuple #[.int .i64 l.length, .nilIface]) ∧ w' = w.setRow g #[.int .u64 (fnv h l)] := by
  have hc : w.cell? ⟨g, 0, none⟩ = some (.int .u64 h) := (cell_of_row w g 0 _ _ _ hg).trans rfl
  have hf : w.frozen? ⟨g, 0, none⟩ = false := frozen_of_row _ _ _ _ _ hg
  have HG : Hid _ := hg
  have HB : Hid (Seg w b 0 (bv l)) := hb
  clear hg hb
  go_enter Try.func76, Try.ntmps76
  go_wp2
  go_loop [6, 14] (fun n i => ∃ k : Nat, k ≤ l.length ∧ i = .int .i64 k ∧ n = .int .u64 (fnv h (l.take k))) (fun _ i => l.length - (intOf i).toNat)
  case atStart => exact ⟨0, Nat.zero_le _, rfl, rfl⟩
  case round =>
    obtain ⟨k, hk, rfl, rfl⟩ := hrel
    obtain ⟨z0, z1⟩ := fnv_bd (l.take k) h ⟨h0, h1⟩
    by_cases hlt : k < l.length
    · have hts : Hid (fnv h (l.take (k + 1)) = fstep (fnv h (l.take k)) (l.getD k 0)) := fnv_take h l k hlt
      have hcell : w.cell? ⟨b, k, none⟩ = some (.int .u8 ((l.getD k 0).toNat : Int)) := by
        have := HB.out k (by rw [bv_size]; exact hlt)
        rw [Nat.zero_add, bv_get l k hlt] at this
        exact this
      obtain ⟨c, hcc⟩ : ∃ c, c = l.getD k 0 := ⟨_, rfl⟩
      rw [← hcc] at hts hcell
      clear hcc
      obtain ⟨z, hz⟩ : ∃ z, z = fnv h (l.take k) := ⟨_, rfl⟩
      rw [← hz] at hts z0 z1 ⊢
      clear hz
      go_wp2
      go_round
      case rel => exact ⟨k + 1, by omega, by go_num, by rw [hts.out]; rfl⟩
      case measure => simp [intOf]; omega
    · obtain rfl : k = l.length := by omega
      go_wp2
      go_ret2
      refine ⟨rfl, ?_⟩
      rw [setCell_eq_setRow _ _ _ _ _ _ _ HG.out]
      rfl

theorem meth_write (a : Addr) (w : World) : (method 211 92 (.pointer (some a)) "Write").run Try.prog w = .ok (76, .pointer (some a)) w := by kernel_rfl
theorem meth_sum (a : Addr) (w : World) : (method 211 92 (.pointer (some a)) "Sum64").run Try.prog w = .ok (75, .pointer (some a)) w := by kernel_rfl

theorem bytes_bv (s : ByteArray) (cap : Nat) : bytesRow s cap = bv s.data.toList ++ Array.replicate (cap - s.size) (.int .u8 0) := by
  unfold bytesRow bv
  congr 1
  apply Array.ext'
  simp

theorem conv_bytes (s : ByteArray) (w : World) : ∃ w2 cap, (convert 9 90 (.string s)).run Try.prog w = .ok (.slice (some ⟨w.heap.size, 0, none⟩) s.data.toList.length cap) w2 ∧ Seg w2 w.heap.size 0 (bv s.data.toList) ∧ Below w.heap.size w w2 := by
  have h := run_bytes_of_string (P := Try.prog) w 9 90 5 s Try.underlying9 Try.underlying90 Try.underlying5
  have hl : s.size = s.data.toList.length := by simp
  refine ⟨_, _, h.trans (by rw [← hl]), ?_, ?_⟩
  · intro j hj
    have hj' : j < s.data.toList.length := by rw [bv_size] at hj; exact hj
    rw [Nat.zero_add]
    refine (cell_of_row _ w.heap.size j _ _ _ (heap_alloc_new w.drew _)).trans ?_
    rw [bytes_bv, Array.getElem?_append_left hj]
  · exact (Below.refl _ _).drew.alloc (Nat.le_refl _) _

set_option maxHeartbeats 400000 in
theorem hashID_any (s : ByteArray) (w : World) (hs : s.size ≤ maxLen) :
    Calls Try.prog 48 #[.string s] w fun e w' => e = .returned (.int .u64 (hash s.data.toList)) ∧ Below w.heap.size w w' := by
  obtain ⟨b0, b1⟩ := fnv_bd s.data.toList fbase ⟨by decide, by decide⟩
  go_enter Try.func48, Try.ntmps48
  go_wp2_with fail
  refine (new64a_any _).mono ?_
  rintro e w' ⟨rfl, rfl⟩
  have hg1 : Hid ((w.alloc (.cells #[.int .u64 fbase] 91)).heap[w.heap.size]? = some (.cells #[.int .u64 fbase] 91)) := heap_alloc_new _ _
  have hb1 : Hid (Below w.heap.size w (w.alloc (.cells #[.int .u64 fbase] 91))) := (Below.refl _ _).alloc (Nat.le_refl _) _
  have hs1 : w.heap.size < (w.alloc (.cells #[.int .u64 fbase] 91)).heap.size := by simp
  generalize w.alloc (.cells #[.int .u64 fbase] 91) = w1 at hg1 hb1 hs1 ⊢
  obtain ⟨w2, cap, hcv, hseg, hb2⟩ := conv_bytes s w1
  have hg2 : Hid (w2.heap[w.heap.size]? = some (.cells #[.int .u64 fbase] 91)) := (hb2.block _ hs1).trans hg1.out
  have hbl2 : Hid (Below w.heap.size w w2) := hb1.out.trans (hb2.mono (by omega))
  have HS : Hid _ := hseg
  clear hseg hb2 hg1 hb1
  have m1 := meth_write ⟨w.heap.size, 0, none⟩
  have m2 := meth_sum ⟨w.heap.size, 0, none⟩
  go_wp2_with fail
  refine (write_any w.heap.size w1.heap.size fbase s.data.toList cap _ (by unfold maxLen at hs; simpa using hs) (by decide) (by decide) hg2.out HS.out).mono ?_
  rintro e w' ⟨rfl, rfl⟩
  have hg3 : Hid ((w2.setRow w.heap.size #[.int .u64 (fnv fbase s.data.toList)]).heap[w.heap.size]? = some (.cells #[.int .u64 (fnv fbase s.data.toList)] 91)) := setRow_heap _ _ _ _ _ _ hg2.out
  have hbl3 : Hid (Below w.heap.size w (w2.setRow w.heap.size #[.int .u64 (fnv fbase s.data.toList)])) := hbl2.out.trans ⟨rfl, rfl, rfl, by simp, fun k hk => setRow_other _ _ _ _ (by omega)⟩
  generalize w2.setRow w.heap.size #[.int .u64 (fnv fbase s.data.toList)] = w3 at hg3 hbl3 ⊢
  clear hcv HS hg2 hbl2
  go_wp2_with fail
  refine (sum64_any w.heap.size _ _ hg3.out).mono ?_
  rintro e w' ⟨rfl, rfl⟩
  go_wp2_with fail
  refine (mix_any _ _ b0 b1).mono ?_
  rintro e w' ⟨rfl, rfl⟩
  go_wp2
  go_ret
  exact ⟨rfl, hbl3.out⟩

end Go.Proofs.Qxb6612204a
