import Derived.Test.Qxb6612204aWalkV
namespace Go.Proofs.Qxb6612204a
open Go.RowKit Plain
set_option linter.unusedVariables false
set_option linter.unusedSimpArgs false

set_option maxRecDepth 10000 in
set_option maxHeartbeats 1000000 in
theorem rt10 (g : Nat) (node set : ByteArray) (rank : Int) (T R : List UInt8) (q : Rk) (E own : Int) (w0 w : World) (hT : T.length = 1024) (hR : R.length = 1024)
    (hk : (!coversL R T || q.has own) = false) (hg : w.heap[g]? = some (.cells (stRow node set rank 2 zeros (tombRow T R q.r0 q.r1 (q.n : Int) E)) 64)) (hb : But g w0 w)
    {u1 u2 u3 u4 u5 u6 u7 u8 u9 u10 u11 u12 u13 u14 u15 u16 u17 u18 u19 u20 u21 u22 u23 u24 u25 u26 u27 u28 u29 u30 u31 u32 u33 u34 u35 u36 u37 u38 u39 u40 u41 u42 u43 u44 u45 u46 u47 u48 u49 u50 u51 u52 u53 u54 u55 u56 u57 u58 u59 u60 u61 u62 u63 u64 u65 u66 u67 u68 u69 u70 u71 u72 u73 u74 u75 u76 u77 u78 u79 u80 u81 u82 u83 u84 u85 u86 u87 u88 u89 u90 u91 u92 u93 u94 u95 : Value} (Q : Exit → Act → World → Prop) (hQ : Q = bodyPost Try.prog Try.f14 fun e w' => RtEnd g w0 node set rank T R q E own e w') :
    Code.wp Try.prog (tl 10 (Try.f14.body.getD .skip)) Q ⟨#[.pointer (some ⟨g, 0, none⟩), u1, u2, u3, u4, u5, u6, u7, u8, u9, u10, u11, u12, u13, u14, u15, u16, u17, u18, u19, u20, u21, u22, u23, u24, u25, u26, u27, u28, u29, u30, u31, u32, u33, u34, u35, u36, u37, u38, u39, u40, u41, u42, u43, u44, u45, u46, u47, u48, u49, u50, u51, u52, u53, u54, u55, u56, u57, u58, u59, u60, u61, u62, u63, u64, u65, u66, u67, u68, u69, u70, u71, u72, u73, u74, u75, u76, u77, u78, u79, u80, u81, u82, u83, u84, u85, u86, u87, u88, u89, u90, u91, u92, u93, u94, u95], []⟩ w := by
  delta Try.f14
  dsimp only [tl, Option.getD_some]
  obtain ⟨tb, htb⟩ : ∃ t, t = (tombRow T R q.r0 q.r1 (q.n : Int) E) := ⟨_, rfl⟩
  obtain ⟨t0, ht0⟩ : ∃ t, t = tombRow zeros zeros 0 0 0 0 := ⟨_, rfl⟩
  have sz : tb.size = 2052 := by rw [htb]; exact tombRow_size _ _ _ _ _ _ hT hR
  have s0 : t0.size = 2052 := by rw [ht0]; exact tombRow_size _ _ _ _ _ _ zeros_len zeros_len
  have o1 : tb.all (·.oneCell') = true := by rw [htb]; exact tomb_one _ _ _ _ _ _
  have z61 : (Try.prog.info? 61).map (·.zero) = some (some (.agg t0)) := by rw [ht0]; exact zero61
  have hgs : g < w.heap.size := (Array.getElem?_eq_some_iff.1 hg).1
  have hL : ((w.alloc (.cells t0 61)).setRow w.heap.size (over t0 0 tb)).heap[w.heap.size]? = some (.cells tb 61) := by
    have e := over_all t0 tb (by rw [sz, s0])
    exact (setRow_heap _ _ _ _ _ _ (heap_alloc_new w (.cells t0 61))).trans (by rw [e])
  have hG : ((w.alloc (.cells t0 61)).setRow w.heap.size (over t0 0 tb)).heap[g]? = some (.cells (stRow node set rank 2 zeros (tombRow T R q.r0 q.r1 (q.n : Int) E)) 64) := by
    rw [setRow_other _ _ _ _ (by omega), Below.heap_alloc _ _ _ hgs]; exact hg
  have hB : But g w0 ((w.alloc (.cells t0 61)).setRow w.heap.size (over t0 0 tb)) := by
    refine hb.trans (But.of_below (((Below.refl _ _).alloc (Nat.le_refl _) _).trans ⟨rfl, rfl, rfl, by simp, fun q hq => setRow_other _ _ _ _ (by omega)⟩))
  have hSeg : Seg w g 1028 tb := by
    rw [← htb, st_tomb node set rank 2 zeros tb] at hg
    exact seg_part hg (szT _ _ _ _ _ zeros_len).symm
  have HS : Hid _ := hSeg
  have HI : Hid ((Try.prog.info? 61).map (·.size) = some tb.size) := by show _ = _; rw [Try.info61, sz]
  have HZ : Hid (0 + tb.size ≤ t0.size) := by show _ ≤ _; omega
  have HO : Hid _ := o1
  have H61 : Hid _ := z61
  have HR : Hid ((w.alloc (.cells t0 61)).heap[w.heap.size]? = some (.cells t0 61)) := heap_alloc_new w (.cells t0 61)
  have HL : Hid (((w.alloc (.cells t0 61)).setRow w.heap.size (over t0 0 tb)).heap[w.heap.size]? = some (.cells (tombRow T R q.r0 q.r1 (q.n : Int) E) 61)) := by rw [← htb]; exact hL
  have HG : Hid _ := hG
  have HB : Hid _ := hB
  have HQ : Hid _ := hQ
  have HB0 : Hid _ := hb
  clear htb ht0 sz s0 o1 z61 hL hG hB hSeg hg hQ hb
  apply wp_seq_k; intro K1 aK1
  have HK : Hid (∀ a w, _ → K1 a w) := aK1
  clear aK1
  go_wp2_with (first
    | (refine wpList_load_seg rfl 61 (.tmp 87) rfl g 1028 rfl tb _ ?_ Try.underlying61 rfl ?_ ?_; (exact HS.out); (exact HI.out); simp only [Act.put, List.setIfInBounds_toArray, List.set_cons_succ, List.set_cons_zero])
    | (refine wpList_alloc_row rfl 61 rfl (.agg t0) ?_ ?_; (exact H61.out); rw [cells_agg]; simp only [Act.put, List.setIfInBounds_toArray, List.set_cons_succ, List.set_cons_zero])
    | (refine wpList_store_seg rfl 61 (.tmp 7) (.tmp 88) rfl w.heap.size 0 tb rfl rfl 61 t0 ?_ ?_ ?_ ?_ ?_; (exact HR.out); (exact HI.out); (exact HZ.out); (exact HO.out); simp only [Act.put, List.setIfInBounds_toArray, List.set_cons_succ, List.set_cons_zero]))
  exact HK.out _ _ (rt11 g w.heap.size node set rank T R q E own w0 _ hT hR hk HG.out HL.out HB0.out.size (by omega) HB.out Q HQ.out)

theorem st_RkAt {w : World} {g : Nat} {node set : ByteArray} {rank h : Int} {rec T R : List UInt8} {q : Rk} {E : Int} (hr : rec.length = 1024) (hT : T.length = 1024) (hR : R.length = 1024) (hg : w.heap[g]? = some (.cells (stRow node set rank h rec (tombRow T R q.r0 q.r1 (q.n : Int) E)) 64)) : RkAt w g 3076 q := by
  rw [st_K] at hg
  have := rkAt_of_row hg
  rwa [szK _ _ _ _ _ _ _ hr hT hR] at this
theorem st_segT {w : World} {g : Nat} {node set : ByteArray} {rank h : Int} {rec T R : List UInt8} {r0 r1 n E : Int} (hr : rec.length = 1024) (hg : w.heap[g]? = some (.cells (stRow node set rank h rec (tombRow T R r0 r1 n E)) 64)) : Seg w g 1028 (bv T) := by
  rw [st_T] at hg
  exact seg_part hg (szT _ _ _ _ _ hr).symm
theorem st_segR {w : World} {g : Nat} {node set : ByteArray} {rank h : Int} {rec T R : List UInt8} {r0 r1 n E : Int} (hr : rec.length = 1024) (hT : T.length = 1024) (hg : w.heap[g]? = some (.cells (stRow node set rank h rec (tombRow T R r0 r1 n E)) 64)) : Seg w g (1028 + 1024) (bv R) := by
  rw [st_R] at hg
  exact seg_part hg (szR _ _ _ _ _ _ hr hT).symm

set_option maxRecDepth 10000 in
set_option maxHeartbeats 1000000 in
theorem rt9 (g : Nat) (node set : ByteArray) (rank : Int) (T R : List UInt8) (q : Rk) (E own : Int) (w0 w : World) (hT : T.length = 1024) (hR : R.length = 1024) (hn : q.n ≤ 2)
    (hg : w.heap[g]? = some (.cells (stRow node set rank 2 zeros (tombRow T R q.r0 q.r1 (q.n : Int) E)) 64)) (hb : But g w0 w)
    {u1 u2 u3 u4 u5 u7 u8 u9 u10 u11 u12 u13 u14 u15 u16 u17 u18 u19 u20 u21 u22 u23 u24 u25 u26 u27 u28 u29 u30 u31 u32 u33 u34 u35 u36 u37 u38 u39 u40 u41 u42 u43 u44 u45 u46 u47 u48 u49 u50 u51 u52 u53 u54 u55 u56 u57 u58 u59 u60 u61 u62 u63 u64 u65 u66 u67 u68 u69 u70 u71 u72 u73 u74 u75 u76 u77 u78 u79 u80 u81 u82 u83 u84 u85 u86 u87 u88 u89 u90 u91 u92 u93 u94 u95 : Value} (Q : Exit → Act → World → Prop) (hQ : Q = bodyPost Try.prog Try.f14 fun e w' => RtEnd g w0 node set rank T R q E own e w') :
    Code.wp Try.prog (tl 9 (Try.f14.body.getD .skip)) Q ⟨#[.pointer (some ⟨g, 0, none⟩), u1, u2, u3, u4, u5, .int .u64 own, u7, u8, u9, u10, u11, u12, u13, u14, u15, u16, u17, u18, u19, u20, u21, u22, u23, u24, u25, u26, u27, u28, u29, u30, u31, u32, u33, u34, u35, u36, u37, u38, u39, u40, u41, u42, u43, u44, u45, u46, u47, u48, u49, u50, u51, u52, u53, u54, u55, u56, u57, u58, u59, u60, u61, u62, u63, u64, u65, u66, u67, u68, u69, u70, u71, u72, u73, u74, u75, u76, u77, u78, u79, u80, u81, u82, u83, u84, u85, u86, u87, u88, u89, u90, u91, u92, u93, u94, u95], []⟩ w := by
  delta Try.f14
  dsimp only [tl, Option.getD_some]
  have hgs : g < w.heap.size := (Array.getElem?_eq_some_iff.1 hg).1
  have HR1 : Hid _ := reached_any g 1028 T R w hT hR (st_segT zeros_len hg) (st_segR zeros_len hT hg) hgs
  have HG : Hid _ := hg
  have HB : Hid _ := hb
  have HQ : Hid _ := hQ
  obtain ⟨c, hc⟩ : ∃ c, coversL R T = c := ⟨_, rfl⟩
  obtain ⟨b, hbb⟩ : ∃ b, q.has own = b := ⟨_, rfl⟩
  have HC : Hid (coversL R T = c) := hc
  have HBB : Hid (q.has own = b) := hbb
  rw [hc] at HR1
  clear hg hb hc hbb hQ
  apply wp_seq_k; intro K1 aK1
  have HK : Hid (∀ a w, _ → K1 a w) := aK1
  clear aK1
  cases c
  · have hQ := HQ.out
    subst hQ
    go_wp2_with fail
    refine Calls.mono HR1.out ?_
    rintro e w1 ⟨rfl, hb1⟩
    go_wp2
    go_ret2
    refine ⟨HB.out.trans (But.of_below hb1), Or.inl ⟨?_, rfl, (hb1.block _ hgs).trans HG.out⟩⟩
    rw [HC.out]; rfl
  · cases b
    · go_wp2_with fail
      refine Calls.mono HR1.out ?_
      rintro e w1 ⟨rfl, hb1⟩
      have HG1 : Hid (w1.heap[g]? = some (.cells (stRow node set rank 2 zeros (tombRow T R q.r0 q.r1 (q.n : Int) E)) 64)) := (hb1.block _ hgs).trans HG.out
      have HR2 : Hid _ := rholds_any g 3076 q own w1 (st_RkAt zeros_len hT hR HG1.out) hn
      rw [HBB.out] at HR2
      have HB1 : Hid (But g w0 w1) := HB.out.trans (But.of_below hb1)
      clear hb1
      go_wp2_with fail
      refine Calls.mono HR2.out ?_
      rintro e w2 ⟨rfl, hb2⟩
      have hgs1 : g < w1.heap.size := (Array.getElem?_eq_some_iff.1 HG1.out).1
      have HG2 : Hid (w2.heap[g]? = some (.cells (stRow node set rank 2 zeros (tombRow T R q.r0 q.r1 (q.n : Int) E)) 64)) := (hb2.block _ hgs1).trans HG1.out
      have HB2 : Hid (But g w0 w2) := HB1.out.trans (But.of_below hb2)
      clear hb2
      go_wp2_with fail
      exact HK.out _ _ (rt10 g node set rank T R q E own w0 w2 hT hR (by rw [HC.out, HBB.out]; rfl) HG2.out HB2.out Q HQ.out)
    · have hQ := HQ.out
      subst hQ
      go_wp2_with fail
      refine Calls.mono HR1.out ?_
      rintro e w1 ⟨rfl, hb1⟩
      have HG1 : Hid (w1.heap[g]? = some (.cells (stRow node set rank 2 zeros (tombRow T R q.r0 q.r1 (q.n : Int) E)) 64)) := (hb1.block _ hgs).trans HG.out
      have HR2 : Hid _ := rholds_any g 3076 q own w1 (st_RkAt zeros_len hT hR HG1.out) hn
      rw [HBB.out] at HR2
      have HB1 : Hid (But g w0 w1) := HB.out.trans (But.of_below hb1)
      clear hb1
      go_wp2_with fail
      refine Calls.mono HR2.out ?_
      rintro e w2 ⟨rfl, hb2⟩
      have hgs1 : g < w1.heap.size := (Array.getElem?_eq_some_iff.1 HG1.out).1
      go_wp2
      go_ret2
      refine ⟨HB1.out.trans (But.of_below hb2), Or.inl ⟨?_, rfl, (hb2.block _ hgs1).trans HG1.out⟩⟩
      rw [HBB.out]; simp
end Go.Proofs.Qxb6612204a
