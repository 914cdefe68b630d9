import Derived.Test.Qxb6612204aWalkW
namespace Go.Proofs.Qxb6612204a
open Go.RowKit Plain
set_option linter.unusedVariables false
set_option linter.unusedSimpArgs false

set_option maxRecDepth 10000 in
set_option maxHeartbeats 1000000 in
theorem rt6 (g g2 : Nat) (node set : ByteArray) (rank : Int) (T R : List UInt8) (f : Rk) (E : Int) (w0 w : World) (hT : T.length = 1024) (hR : R.length = 1024) (hfn : f.n ≤ 2) (hr0 : 0 ≤ rank) (hr1 : rank ≤ 18446744073709551615) (hE0 : 0 ≤ E) (hE1 : E ≤ 18446744073709551615) (hne : g2 ≠ g)
    (hg : w.heap[g]? = some (.cells (stRow node set rank 2 zeros (tombRow T R 0 0 0 0)) 64)) (hf : RkAt w g2 2048 f) (he : w.cell? ⟨g2, 2051, none⟩ = some (.int .u64 E)) (hb : But g w0 w)
    {u2 u3 u4 u5 u6 u7 u8 u9 u10 u11 u12 u13 u14 u15 u16 u17 u18 u19 u20 u21 u22 u23 u24 u25 u26 u27 u28 u29 u30 u31 u32 u33 u34 u35 u36 u37 u38 u39 u40 u41 u42 u43 u44 u45 u46 u47 u48 u49 u50 u51 u52 u53 u54 u55 u56 u57 u58 u59 u60 u61 u62 u63 u64 u65 u66 u67 u68 u69 u70 u71 u72 u73 u74 u75 u76 u77 u78 u79 u80 u81 u82 u83 u84 u85 u86 u87 u88 u89 u90 u91 u92 u93 u94 u95 : Value} (Q : Exit → Act → World → Prop) (hQ : Q = bodyPost Try.prog Try.f14 fun e w' => RtEnd g w0 node set rank T R ((Rk.zero.merge f).add (rankAtI rank E)) E (rankAtI rank E) e w') :
    Code.wp Try.prog (tl 6 (Try.f14.body.getD .skip)) Q ⟨#[.pointer (some ⟨g, 0, none⟩), .pointer (some ⟨g2, 0, none⟩), u2, u3, u4, u5, u6, u7, u8, u9, u10, u11, u12, u13, u14, u15, u16, u17, u18, u19, u20, u21, u22, u23, u24, u25, u26, u27, u28, u29, u30, u31, u32, u33, u34, u35, u36, u37, u38, u39, u40, u41, u42, u43, u44, u45, u46, u47, u48, u49, u50, u51, u52, u53, u54, u55, u56, u57, u58, u59, u60, u61, u62, u63, u64, u65, u66, u67, u68, u69, u70, u71, u72, u73, u74, u75, u76, u77, u78, u79, u80, u81, u82, u83, u84, u85, u86, u87, u88, u89, u90, u91, u92, u93, u94, u95], []⟩ w := by
  delta Try.f14
  dsimp only [tl, Option.getD_some]
  obtain ⟨A, hA⟩ : ∃ A, A = hd4 node set rank 2 ++ bv zeros ++ bv T ++ bv R := ⟨_, rfl⟩
  have sA : A.size = 3076 := by rw [hA]; exact szK _ _ _ _ _ _ _ zeros_len hT hR
  have eA : ∀ (r : Rk) (e : Int), A ++ rkRow r ++ #[.int .u64 e] = stRow node set rank 2 zeros (tombRow T R r.r0 r.r1 (r.n : Int) e) := fun r e => by rw [hA]; exact (st_K node set rank 2 zeros T R r e).symm
  have hg0 : w.heap[g]? = some (.cells (A ++ rkRow Rk.zero ++ #[.int .u64 0]) 64) := by rw [eA]; exact hg
  have HM : Hid _ := mergeRanks_any g g2 A f E w hE0 hE1 sA hg0 hf he hfn hne
  have HEA : Hid _ := eA
  have HB : Hid _ := hb
  have HQ : Hid _ := hQ
  have hc2 : ∀ (W : World) (r : Rk) (e : Int), W.heap[g]? = some (.cells (A ++ rkRow r ++ #[.int .u64 e]) 64) → W.cell? ⟨g, 2, none⟩ = some (.int .u64 rank) := fun W r e h => by
    rw [eA] at h
    rw [cell_of_row _ _ _ _ _ _ h, st_get _ _ _ _ _ _ 2 (by omega)]; rfl
  have HC2 : Hid _ := hc2
  have hgs : g < w.heap.size := (Array.getElem?_eq_some_iff.1 hg).1
  clear hA eA hg0 hg hf he hb hQ hc2
  go_wp2_with fail
  refine Calls.mono HM.out ?_
  rintro e w1 ⟨rfl, hg1, hb1⟩
  have HG1 : Hid _ := hg1
  have HB1 : Hid (But g w0 w1) := HB.out.trans hb1
  have HO : Hid _ := ownRank_any g rank E w1 hr0 hr1 hE0 hE1 (HC2.out _ _ _ hg1) (by rw [cell_of_row _ _ _ _ _ _ hg1, ep_get A _ _ sA])
  have hgs1 : g < w1.heap.size := (Array.getElem?_eq_some_iff.1 hg1).1
  clear hg1 hb1 HM
  go_wp2_with fail
  refine Calls.mono HO.out ?_
  rintro e w2 ⟨rfl, hb2⟩
  have hg2 := (hb2.block _ hgs1).trans HG1.out
  have HB2 : Hid (But g w0 w2) := HB1.out.trans (But.of_below hb2)
  have hra := radd_any g A #[.int .u64 E] (Rk.zero.merge f) (rankAtI rank E) 64 w2 (Rk.merge_le _ _ (by decide)) hg2
  rw [sA] at hra
  have HRA : Hid _ := hra
  clear hg2 hb2 hra HO
  go_wp2_with fail
  rename_i Ko aKo Ki aKi
  have HK : Hid (∀ a w, _ → Ko a w) := aKo
  clear aKo
  refine Calls.mono HRA.out ?_
  rintro e w3 ⟨rfl, hg3, hb3⟩
  have HG3 : Hid _ := hg3
  have HB3 : Hid (But g w0 w3) := HB2.out.trans hb3
  clear hg3 hb3 HRA
  go_wp2_with fail
  refine HK.out _ _ (rt9 g node set rank T R ((Rk.zero.merge f).add (rankAtI rank E)) E (rankAtI rank E) w0 w3 hT hR (Rk.add_le _ _ (Rk.merge_le _ _ (by decide))) ?_ HB3.out Q HQ.out)
  rw [← HEA.out]; exact HG3.out
end Go.Proofs.Qxb6612204a
