import Derived.Test.Qxb6612204aWalkX
namespace Go.Proofs.Qxb6612204a
open Go.RowKit Plain
set_option linter.unusedVariables false
set_option linter.unusedSimpArgs false

theorem tb_T (T R : List UInt8) (r0 r1 n e : Int) : tombRow T R r0 r1 n e = #[] ++ bv T ++ (bv R ++ #[.int .u64 r0, .int .u64 r1, .int .i64 n, .int .u64 e]) := by
  unfold tombRow; simp only [Array.append_assoc, Array.empty_append]
theorem tb_K (T R : List UInt8) (r : Rk) (e : Int) : tombRow T R r.r0 r.r1 (r.n : Int) e = (bv T ++ bv R) ++ rkRow r ++ #[.int .u64 e] := by
  unfold tombRow rkRow; simp only [Array.append_assoc]; rfl
theorem tb_segT {w : World} {g : Nat} {t : TypeId} {T R : List UInt8} {r0 r1 n E : Int} (hg : w.heap[g]? = some (.cells (tombRow T R r0 r1 n E) t)) : Seg w g 0 (bv T) := by
  rw [tb_T] at hg
  exact seg_part hg rfl
theorem tb_segR {w : World} {g : Nat} {t : TypeId} {T R : List UInt8} {r0 r1 n E : Int} (hT : T.length = 1024) (hg : w.heap[g]? = some (.cells (tombRow T R r0 r1 n E) t)) : Seg w g 1024 (bv R) := by
  unfold tombRow at hg
  exact seg_part hg (by rw [bv_size, hT])
theorem tb_RkAt {w : World} {g : Nat} {t : TypeId} {T R : List UInt8} {q : Rk} {E : Int} (hT : T.length = 1024) (hR : R.length = 1024) (hg : w.heap[g]? = some (.cells (tombRow T R q.r0 q.r1 (q.n : Int) E) t)) : RkAt w g 2048 q := by
  rw [tb_K] at hg
  have := rkAt_of_row hg
  rwa [show (bv T ++ bv R).size = 2048 by simp [bv_size, hT, hR]] at this
theorem tb_cellE {w : World} {g : Nat} {t : TypeId} {T R : List UInt8} {r0 r1 n E : Int} (hT : T.length = 1024) (hR : R.length = 1024) (hg : w.heap[g]? = some (.cells (tombRow T R r0 r1 n E) t)) : w.cell? ⟨g, 2051, none⟩ = some (.int .u64 E) := by
  have hs : Seg w g 2048 #[.int .u64 r0, .int .u64 r1, .int .i64 n, .int .u64 E] := by
    have e : tombRow T R r0 r1 n E = (bv T ++ bv R) ++ #[.int .u64 r0, .int .u64 r1, .int .i64 n, .int .u64 E] ++ #[] := by unfold tombRow; simp only [Array.append_empty]
    rw [e] at hg
    exact seg_part hg (by simp [bv_size, hT, hR])
  exact hs 3 (by simp)

set_option maxRecDepth 10000 in
set_option maxHeartbeats 1000000 in
theorem rt3 (g g2 : Nat) (node set : ByteArray) (rank : Int) (rec T R : List UInt8) (f : Rk) (E : Int) (w0 w : World) (hs : node.size ≤ maxLen) (hrec : rec.length = 1024) (hT : T.length = 1024) (hR : R.length = 1024) (hfn : f.n ≤ 2) (hr0 : 0 ≤ rank) (hr1 : rank ≤ 18446744073709551615) (hE0 : 0 ≤ E) (hE1 : E ≤ 18446744073709551615) (hne : g2 ≠ g)
    (hg : w.heap[g]? = some (.cells (stRow node set rank 2 zeros (tombRow rec zeros 0 0 0 0)) 64)) (h2 : w.heap[g2]? = some (.cells (tombRow T R f.r0 f.r1 (f.n : Int) E) 61)) (hb : But g w0 w)
    {u2 u3 u4 u5 u6 u7 u8 u9 u10 u11 u12 u13 u14 u15 u16 u17 u18 u19 u20 u21 u22 u23 u24 u25 u26 u27 u28 u29 u30 u31 u32 u33 u34 u35 u36 u37 u38 u39 u40 u41 u42 u43 u44 u45 u46 u47 u48 u49 u50 u51 u52 u53 u54 u55 u56 u57 u58 u59 u60 u61 u62 u63 u64 u65 u66 u67 u68 u69 u70 u71 u72 u73 u74 u75 u76 u77 u78 u79 u80 u81 u82 u83 u84 u85 u86 u87 u88 u89 u90 u91 u92 u93 u94 u95 : Value} (Q : Exit → Act → World → Prop) (hQ : Q = bodyPost Try.prog Try.f14 fun e w' => RtEnd g w0 node set rank (maxL rec T) (addL (maxL zeros R) (Plain.hash node.data.toList)) ((Rk.zero.merge f).add (rankAtI rank E)) E (rankAtI rank E) e w') :
    Code.wp Try.prog (tl 3 (Try.f14.body.getD .skip)) Q ⟨#[.pointer (some ⟨g, 0, none⟩), .pointer (some ⟨g2, 0, none⟩), u2, u3, u4, u5, u6, u7, u8, u9, u10, u11, u12, u13, u14, u15, u16, u17, u18, u19, u20, u21, u22, u23, u24, u25, u26, u27, u28, u29, u30, u31, u32, u33, u34, u35, u36, u37, u38, u39, u40, u41, u42, u43, u44, u45, u46, u47, u48, u49, u50, u51, u52, u53, u54, u55, u56, u57, u58, u59, u60, u61, u62, u63, u64, u65, u66, u67, u68, u69, u70, u71, u72, u73, u74, u75, u76, u77, u78, u79, u80, u81, u82, u83, u84, u85, u86, u87, u88, u89, u90, u91, u92, u93, u94, u95], []⟩ w := by
  delta Try.f14
  dsimp only [tl, Option.getD_some]
  obtain ⟨z, hz⟩ : ∃ z, z = zeros := ⟨_, rfl⟩
  have HZ : Hid (z = zeros) := hz
  have lz : z.length = 1024 := by rw [hz, zeros_len]
  rw [← hz] at hg hQ
  clear hz
  obtain ⟨T1, hT1⟩ : ∃ l, l = maxL rec T := ⟨_, rfl⟩
  have lT1 : T1.length = 1024 := by rw [hT1, maxL_len _ _ (by omega), hrec]
  obtain ⟨R1, hR1⟩ : ∃ l, l = maxL z R := ⟨_, rfl⟩
  have lR1 : R1.length = 1024 := by rw [hR1, maxL_len _ _ (by omega), lz]
  obtain ⟨R2, hR2⟩ : ∃ l, l = addL R1 (Plain.hash node.data.toList) := ⟨_, rfl⟩
  have lR2 : R2.length = 1024 := by rw [hR2, addL_len, lR1]
  rw [← hT1, ← hR1, ← hR2] at hQ
  have HX : Hid (T1 = maxL rec T ∧ R1 = maxL z R ∧ R2 = addL R1 (Plain.hash node.data.toList)) := ⟨hT1, hR1, hR2⟩
  clear hT1 hR1 hR2
  have hg2s : g2 < w.heap.size := (Array.getElem?_eq_some_iff.1 h2).1
  rw [st_T] at hg
  have HM : Hid (∀ W : World, Below w.heap.size w W → Calls Try.prog 37 #[.pointer (some ⟨g, 1028, none⟩), .pointer (some ⟨g2, 0, none⟩)] W fun e w' => e = .returned (.tuple #[]) ∧
      w'.heap[g]? = some (.cells (stRow node set rank 2 z (tombRow T1 z 0 0 0 0)) 64) ∧ But g W w') := fun W hB => by
    have hgs : g < w.heap.size := (Array.getElem?_eq_some_iff.1 hg).1
    refine (merge_any g 1028 g2 0 _ _ rec T 64 W (szT node set rank 2 z lz) hrec hT ((hB.block _ hgs).trans hg) (tb_segT ((hB.block _ hg2s).trans h2))).mono ?_
    rintro e w' ⟨rfl, hg', hb'⟩
    refine ⟨rfl, ?_, hb'⟩
    rw [hg', st_T, HX.out.1]
  have HH2 : Hid _ := h2
  have HB : Hid _ := hb
  have HQ : Hid _ := hQ
  clear hg h2 hb hQ
  go_wp2_with fail
  go_region_held3 (fun w' => True) (trivial)
    (first | (go_at_call 37; refine Calls.mono (HM.out _ (by exact (Below.refl _ _).drew)) ?_; rintro e w1 ⟨rfl, hg1, hb1⟩))
  have h21 : w1.heap[g2]? = some (.cells (tombRow T R f.r0 f.r1 (f.n : Int) E) 61) := (hb1.block _ hg2s hne).trans HH2.out
  have hg2s1 : g2 < w1.heap.size := (Array.getElem?_eq_some_iff.1 h21).1
  have HB1 : Hid (But g w0 w1) := HB.out.trans ((But.of_below (Below.refl _ _).drew).trans hb1)
  rw [st_R] at hg1
  have HM1 : Hid (∀ W : World, Below w1.heap.size w1 W → Calls Try.prog 37 #[.pointer (some ⟨g, 2052, none⟩), .pointer (some ⟨g2, 1024, none⟩)] W fun e w' => e = .returned (.tuple #[]) ∧
      w'.heap[g]? = some (.cells (stRow node set rank 2 z (tombRow T1 R1 0 0 0 0)) 64) ∧ But g W w') := fun W hB => by
    have hgs : g < w1.heap.size := (Array.getElem?_eq_some_iff.1 hg1).1
    refine (merge_any g 2052 g2 1024 _ _ z R 64 W (szR node set rank 2 z T1 lz lT1) lz hR ((hB.block _ hgs).trans hg1) (tb_segR hT ((hB.block _ hg2s1).trans h21))).mono ?_
    rintro e w' ⟨rfl, hg', hb'⟩
    refine ⟨rfl, ?_, hb'⟩
    rw [hg', st_R, HX.out.2.1]
  have HH21 : Hid _ := h21
  clear hg1 h21 hb1 HM HH2 HB hg2s
  go_wp2_with fail
  go_region_held3 (fun w' => True) (trivial)
    (first | (go_at_call 37; refine Calls.mono (HM1.out _ (by exact (Below.refl _ _).drew)) ?_; rintro e w2 ⟨rfl, hg2, hb2⟩))
  have h22 : w2.heap[g2]? = some (.cells (tombRow T R f.r0 f.r1 (f.n : Int) E) 61) := (hb2.block _ hg2s1 hne).trans HH21.out
  have hg2s2 : g2 < w2.heap.size := (Array.getElem?_eq_some_iff.1 h22).1
  have HB2 : Hid (But g w0 w2) := HB1.out.trans ((But.of_below (Below.refl _ _).drew).trans hb2)
  have hc2 : w2.cell? ⟨g, 0, none⟩ = some (.string node) := by rw [cell_of_row _ _ _ _ _ _ hg2]; exact st_get node set rank 2 z _ 0 (by omega)
  rw [st_R] at hg2
  have HM2 : Hid (∀ W : World, Below w2.heap.size w2 W → Calls Try.prog 38 #[.pointer (some ⟨g, 2052, none⟩), .string node] W fun e w' => e = .returned (.tuple #[]) ∧
      w'.heap[g]? = some (.cells (stRow node set rank 2 z (tombRow T1 R2 0 0 0 0)) 64) ∧ But g W w' ∧ w'.cell? ⟨g, 0, none⟩ = some (.string node)) := fun W hB => by
    have hgs : g < w2.heap.size := (Array.getElem?_eq_some_iff.1 hg2).1
    refine (add_any g 2052 _ _ R1 64 node W hs (szR node set rank 2 z T1 lz lT1) lR1 ((hB.block _ hgs).trans hg2)).mono ?_
    rintro e w' ⟨rfl, hg', hb'⟩
    rw [← HX.out.2.2, ← st_R] at hg'
    exact ⟨rfl, hg', hb', by rw [cell_of_row _ _ _ _ _ _ hg']; exact st_get node set rank 2 z _ 0 (by omega)⟩
  have HH22 : Hid _ := h22
  clear hg2 h22 hb2 HM1 HH21 HB1 hg2s1
  go_wp2_with fail
  go_region_held3 (fun w' => w'.cell? ⟨g, 0, none⟩ = some (.string node)) (first | exact hc2 | exact hc3)
    (first | (go_at_call 38; refine Calls.mono (HM2.out _ (by exact (Below.refl _ _).drew)) ?_; rintro e w3 ⟨rfl, hg3, hb3, hc3⟩))
  have h23 : w3.heap[g2]? = some (.cells (tombRow T R f.r0 f.r1 (f.n : Int) E) 61) := (hb3.block _ hg2s2 hne).trans HH22.out
  rw [HZ.out] at hg3
  rename_i aK _
  exact aK _ _ (rt6 g g2 node set rank T1 R2 f E w0 w3 lT1 lR2 hfn hr0 hr1 hE0 hE1 hne hg3 (tb_RkAt hT hR h23) (tb_cellE hT hR h23) (HB2.out.trans ((But.of_below (Below.refl _ _).drew).trans hb3)) Q HQ.out)
end Go.Proofs.Qxb6612204a
