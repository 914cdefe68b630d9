import Derived.Test.Qxb6612204aWalkY
namespace Go.Proofs.Qxb6612204a
open Go.RowKit Plain
set_option linter.unusedVariables false
set_option linter.unusedSimpArgs false

theorem built61_T (T : List UInt8) (hT : T.length = 1024) : Try.prog.built 61 [(0, .agg (bv T))] = some (tombRow T zeros 0 0 0 0) := by
  rw [built_struct 61 _ _ _ _ zero61 und61 pl61, cells_agg, fill_cons _ _ 0 _ _ 0 1024 rfl (by show (bv T).size = 1024; rw [bv_size, hT]) (by show 0 + 1024 ≤ (tombRow zeros zeros 0 0 0 0).size; rw [tombRow_size _ _ _ _ _ _ zeros_len zeros_len]; omega)]
  show some (over (tombRow zeros zeros 0 0 0 0) 0 (bv T)) = _
  have e := over_mid #[] (bv zeros) (bv zeros ++ #[.int .u64 0, .int .u64 0, .int .i64 0, .int .u64 0]) (bv T) (by rw [bv_size, bv_size, hT, zeros_len])
  rw [tb_T, tb_T T]
  exact congrArg some e
theorem st_seg4 {w : World} {g : Nat} {node set : ByteArray} {rank h : Int} {rec : List UInt8} {tomb : Array Value} (hg : w.heap[g]? = some (.cells (stRow node set rank h rec tomb) 64)) : Seg w g 4 (bv rec) := by
  unfold stRow at hg
  exact seg_part hg rfl

set_option maxRecDepth 10000 in
set_option maxHeartbeats 1000000 in
theorem receiveTomb_any (g g2 : Nat) (node set : ByteArray) (rank : Int) (rec T R : List UInt8) (f : Rk) (E : Int) (w : World) (hs : node.size ≤ maxLen) (hrec : rec.length = 1024) (hT : T.length = 1024) (hR : R.length = 1024) (hfn : f.n ≤ 2) (hr0 : 0 ≤ rank) (hr1 : rank ≤ 18446744073709551615) (hE0 : 0 ≤ E) (hE1 : E ≤ 18446744073709551615) (hne : g2 ≠ g)
    (hg : w.heap[g]? = some (.cells (stRow node set rank 1 rec (tombRow zeros zeros 0 0 0 0)) 64)) (h2 : w.heap[g2]? = some (.cells (tombRow T R f.r0 f.r1 (f.n : Int) E) 61)) :
    Calls Try.prog 14 #[.pointer (some ⟨g, 0, none⟩), .pointer (some ⟨g2, 0, none⟩)] w fun e w' => RtEnd g w node set rank (maxL rec T) (addL (maxL zeros R) (Plain.hash node.data.toList)) ((Rk.zero.merge f).add (rankAtI rank E)) E (rankAtI rank E) e w' := by
  go_enter Try.func14, Try.ntmps14
  have hQ : (bodyPost Try.prog Try.f14 fun e w' => RtEnd g w node set rank (maxL rec T) (addL (maxL zeros R) (Plain.hash node.data.toList)) ((Rk.zero.merge f).add (rankAtI rank E)) E (rankAtI rank E) e w') = (bodyPost Try.prog Try.f14 fun e w' => RtEnd g w node set rank (maxL rec T) (addL (maxL zeros R) (Plain.hash node.data.toList)) ((Rk.zero.merge f).add (rankAtI rank E)) E (rankAtI rank E) e w') := rfl
  generalize hQe : (bodyPost Try.prog Try.f14 fun e w' => RtEnd g w node set rank (maxL rec T) (addL (maxL zeros R) (Plain.hash node.data.toList)) ((Rk.zero.merge f).add (rankAtI rank E)) E (rankAtI rank E) e w') = Q
  have HQ : Hid _ := hQe.symm
  clear hQe hQ
  obtain ⟨z, hz⟩ : ∃ z, z = zeros := ⟨_, rfl⟩
  obtain ⟨t0, ht0⟩ : ∃ t, t = tombRow zeros zeros 0 0 0 0 := ⟨_, rfl⟩
  obtain ⟨t1, ht1⟩ : ∃ t, t = tombRow rec zeros 0 0 0 0 := ⟨_, rfl⟩
  have lz : z.length = 1024 := by rw [hz, zeros_len]
  have s0 : t0.size = 2052 := by rw [ht0]; exact tombRow_size _ _ _ _ _ _ zeros_len zeros_len
  have s1 : t1.size = 2052 := by rw [ht1]; exact tombRow_size _ _ _ _ _ _ hrec zeros_len
  have o1 : t1.all (·.oneCell') = true := by rw [ht1]; exact tomb_one _ _ _ _ _ _
  have b1 : Try.prog.built 61 [(0, .agg (bv rec))] = some t1 := by rw [ht1]; exact built61_T rec hrec
  have hzv : ∀ W, (zeroValue 57).run Try.prog W = .ok (.agg (bv z)) W := fun W => by rw [hz]; exact run_zero zero57 W
  rw [← ht0] at hg
  have hgs : g < w.heap.size := (Array.getElem?_eq_some_iff.1 hg).1
  have hc : w.cell? ⟨g, 3, none⟩ = some (.int .i64 1) := st_cell3 g node set rank 1 rec t0 w hg
  have HS4 : Hid (Seg w g 4 (bv rec)) := st_seg4 hg
  have E1 : over (stRow node set rank 1 rec t0) 1028 t1 = stRow node set rank 1 rec t1 := by
    have e := over_mid (hd4 node set rank 1 ++ bv rec) t0 #[] t1 (by rw [s1, s0])
    rw [szT _ _ _ _ _ hrec] at e
    rw [st_tomb node set rank 1 rec t0, st_tomb node set rank 1 rec t1, e]
  have hg1 : (w.setRow g (stRow node set rank 1 rec t1)).heap[g]? = some (.cells (stRow node set rank 1 rec t1) 64) := setRow_heap _ _ _ _ _ _ hg
  have E2 : over (stRow node set rank 1 rec t1) 4 (bv z) = stRow node set rank 1 z t1 := by
    unfold stRow
    exact over_mid (hd4 node set rank 1) (bv rec) t1 (bv z) (by rw [bv_size, bv_size, lz, hrec])
  have hg2 : ((w.setRow g (stRow node set rank 1 rec t1)).setRow g (stRow node set rank 1 z t1)).heap[g]? = some (.cells (stRow node set rank 1 z t1) 64) := setRow_heap _ _ _ _ _ _ hg1
  have hg3 : (((w.setRow g (stRow node set rank 1 rec t1)).setRow g (stRow node set rank 1 z t1)).setCell ⟨g, 3, none⟩ (.int .i64 2)).heap[g]? = some (.cells (stRow node set rank 2 z t1) 64) := by
    rw [heap_setCell_same _ _ _ _ _ _ hg2, st_holds]
  have hfz : ((w.setRow g (stRow node set rank 1 rec t1)).setRow g (stRow node set rank 1 z t1)).frozen? ⟨g, 3, none⟩ = false := frozen_of_row _ _ _ _ _ hg2
  have hcz : ((w.setRow g (stRow node set rank 1 rec t1)).setRow g (stRow node set rank 1 z t1)).cell? ⟨g, 3, none⟩ = some (.int .i64 1) := st_cell3 g node set rank 1 z t1 _ hg2
  have hB : But g w (((w.setRow g (stRow node set rank 1 rec t1)).setRow g (stRow node set rank 1 z t1)).setCell ⟨g, 3, none⟩ (.int .i64 2)) := ((But.setRow _ _ _).trans (But.setRow _ _ _)).trans (But.setCell _ _ _ _)
  have h23 : (((w.setRow g (stRow node set rank 1 rec t1)).setRow g (stRow node set rank 1 z t1)).setCell ⟨g, 3, none⟩ (.int .i64 2)).heap[g2]? = some (.cells (tombRow T R f.r0 f.r1 (f.n : Int) E) 61) := (hB.block _ (Array.getElem?_eq_some_iff.1 h2).1 hne).trans h2
  have HI57 : Hid ((Try.prog.info? 57).map (·.size) = some (bv rec).size) := by show _ = _; rw [Try.info57, bv_size, hrec]
  have HI57z : Hid ((Try.prog.info? 57).map (·.size) = some (bv z).size) := by show _ = _; rw [Try.info57, bv_size, lz]
  have HI61 : Hid ((Try.prog.info? 61).map (·.size) = some t1.size) := by show _ = _; rw [Try.info61, s1]
  have HZ1 : Hid (1028 + t1.size ≤ (stRow node set rank 1 rec t0).size) := by show _ ≤ _; rw [stRow_size _ _ _ _ _ _ hrec s0, s1]; omega
  have HZ2 : Hid (4 + (bv z).size ≤ (stRow node set rank 1 rec t1).size) := by show _ ≤ _; rw [stRow_size _ _ _ _ _ _ hrec s1, bv_size, lz]; omega
  have HX : Hid (z = zeros ∧ t1 = tombRow rec zeros 0 0 0 0) := ⟨hz, ht1⟩
  have HG0 : Hid _ := hg
  have HG1 : Hid _ := hg1
  have HG3 : Hid _ := hg3
  have HH : Hid _ := h23
  have HB : Hid _ := hB
  have HE1 : Hid _ := E1
  have HE2 : Hid _ := E2
  have HO1 : Hid _ := o1
  have HBL : Hid _ := b1
  clear hz ht0 ht1 s0 s1 o1 b1 hg h2 E1 E2 hg1 hg2 hg3 hB h23
  apply wp_seq_k; intro K0 aK0
  have HK0 : Hid (∀ a w, _ → K0 a w) := aK0
  clear aK0
  go_wp2_with fail
  refine HK0.out _ _ ?_
  clear HK0 K0
  apply wp_seq_k; intro K0 aK0
  have HK0 : Hid (∀ a w, _ → K0 a w) := aK0
  clear aK0
  go_wp2_with (first
    | (refine wpList_load_seg rfl 57 (.tmp 22) rfl g 4 rfl (bv rec) _ ?_ Try.underlying57 rfl ?_ ?_; (exact HS4.out); (exact HI57.out); simp only [Act.put, List.setIfInBounds_toArray, List.set_cons_succ, List.set_cons_zero])
    | (refine wpList_build_as rfl 61 #[(0, .tmp 23)] rfl t1 ?_ ?_; (simp [Act.eval]; exact HBL.out); simp only [Act.put, List.setIfInBounds_toArray, List.set_cons_succ, List.set_cons_zero])
    | (refine wpList_store_seg rfl 61 (.tmp 26) (.tmp 24) rfl g 1028 t1 rfl rfl 64 (stRow node set rank 1 rec t0) ?_ ?_ ?_ ?_ ?_; (exact HG0.out); (exact HI61.out); (exact HZ1.out); (exact HO1.out); rw [HE1.out]; simp only [Act.put, List.setIfInBounds_toArray, List.set_cons_succ, List.set_cons_zero])
    | (refine wpList_store_seg rfl 57 (.tmp 30) (.tmp 28) rfl g 4 (bv z) rfl rfl 64 (stRow node set rank 1 rec t1) ?_ ?_ ?_ ?_ ?_; (exact HG1.out); (exact HI57z.out); (exact HZ2.out); (exact bv_one _); rw [HE2.out]; simp only [Act.put, List.setIfInBounds_toArray, List.set_cons_succ, List.set_cons_zero]))
  refine HK0.out _ _ ?_
  clear HK0 K0
  apply wp_seq_k; intro K0 aK0
  have HK0 : Hid (∀ a w, _ → K0 a w) := aK0
  clear aK0
  go_wp2_with fail
  refine HK0.out _ _ (rt3 g g2 node set rank rec T R f E w _ hs hrec hT hR hfn hr0 hr1 hE0 hE1 hne ?_ HH.out HB.out Q HQ.out)
  obtain ⟨hz, ht1⟩ := HX.out
  rw [← ht1, ← hz]
  exact HG3.out
end Go.Proofs.Qxb6612204a
