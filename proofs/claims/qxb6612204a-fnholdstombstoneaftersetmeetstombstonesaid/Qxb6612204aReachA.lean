import Derived.Test.Qxb6612204aLowG
namespace Go.Proofs.Qxb6612204a
open Go.RowKit Plain
set_option linter.unusedVariables false
set_option linter.unusedSimpArgs false

theorem in22q (a b : List UInt8) (ha : a.length = 1024) (hb : b.length = 1024) (w : World) : (Op.equalIn 10000 22 (.agg (bv a)) (.agg (bv b))).run Try.prog w = .ok (decide (a = b)) w := by
  rw [equalIn_bv (P := Try.prog) w 9998 22 5 1024 Try.underlying22 Try.underlying5 info5c _ _ ha hb]

set_option maxRecDepth 10000 in
set_option maxHeartbeats 1000000 in
theorem reach6 (node : ByteArray) (p : Nat) (rec : List UInt8) (w0 w : World) (hs : node.size ≤ maxLen) (hrec : rec.length = 1024) (hp : w.heap[p]? = some (.cells (bv rec) 22)) (hb : Below w0.heap.size w0 w)
    {u2 u3 u4 u5 u6 u7 u8 u9 u11 u12 u13 u14 u15 u16 u17 u18 u19 u20 u21 u22 u23 u24 u25 u26 u27 u28 u29 u30 u31 u32 u33 u34 u35 u36 u37 u38 u39 u40 u41 u42 u43 u44 u45 u46 u47 u48 u49 u50 u51 u52 u53 u54 u55 u56 u57 u58 u59 u60 u61 u62 u63 u64 u65 u66 u67 u68 u69 u70 u71 u72 u73 u74 u75 u76 u77 u78 u79 u80 u81 u82 u83 u84 u85 u86 u87 u88 u89 u90 u91 u92 u93 u94 u95 u96 : Value} (Q : Exit → Act → World → Prop) (hQ : Q = bodyPost Try.prog Try.f24 fun e w' => e = .returned (.bool (decide ((addL rec (Plain.hash node.data.toList)) = rec))) ∧ Below w0.heap.size w0 w') :
    Code.wp Try.prog (tl 6 (Try.f24.body.getD .skip)) Q ⟨#[.string node, .int .i64 1, u2, u3, u4, u5, u6, u7, u8, u9, .pointer (some ⟨p, 0, none⟩), u11, u12, u13, u14, u15, u16, u17, u18, u19, u20, u21, u22, u23, u24, u25, u26, u27, u28, u29, u30, u31, u32, u33, u34, u35, u36, u37, u38, u39, u40, u41, u42, u43, u44, u45, u46, u47, u48, u49, u50, u51, u52, u53, u54, u55, u56, u57, u58, u59, u60, u61, u62, u63, u64, u65, u66, u67, u68, u69, u70, u71, u72, u73, u74, u75, u76, u77, u78, u79, u80, u81, u82, u83, u84, u85, u86, u87, u88, u89, u90, u91, u92, u93, u94, u95, u96], []⟩ w := by
  delta Try.f24
  dsimp only [tl, Option.getD_some]
  obtain ⟨z, hz⟩ : ∃ z, z = zeros := ⟨_, rfl⟩
  have lz : z.length = 1024 := by rw [hz, zeros_len]
  have z22 : (Try.prog.info? 22).map (·.zero) = some (some (.agg (bv z))) := by rw [hz]; exact zero22
  obtain ⟨X, hX⟩ : ∃ l, l = (addL rec (Plain.hash node.data.toList)) := ⟨_, rfl⟩
  have lX : X.length = 1024 := by rw [hX, addL_len, hrec]
  rw [← hX] at hQ
  obtain ⟨q, hq⟩ : ∃ q, decide (X = rec) = q := ⟨_, rfl⟩
  rw [hq] at hQ
  have he : ∀ w, (Op.equalIn 10000 22 (.agg (bv X)) (.agg (bv rec))).run Try.prog w = .ok q w := fun w => by rw [in22q X rec lX hrec, hq]
  have heg := eqg22
  have hps : p < w.heap.size := (Array.getElem?_eq_some_iff.1 hp).1
  have r0 : (w.alloc (.cells (bv z) 22)).heap[w.heap.size]? = some (.cells (bv z) 22) := heap_alloc_new _ _
  have E0 : over (bv z) 0 (bv rec) = bv rec := over_all _ _ (by rw [bv_size, bv_size, hrec, lz])
  have r1 : ((w.alloc (.cells (bv z) 22)).setRow w.heap.size (bv rec)).heap[w.heap.size]? = some (.cells (#[] ++ bv rec ++ #[]) 22) := (setRow_heap _ _ _ _ _ _ r0).trans (by simp)
  have hb1 : Below w.heap.size w ((w.alloc (.cells (bv z) 22)).setRow w.heap.size (bv rec)) := ((Below.refl _ _).alloc (Nat.le_refl _) _).trans ⟨rfl, rfl, rfl, by simp, fun q hq => setRow_other _ _ _ _ (by omega)⟩
  have HP1 : Hid (((w.alloc (.cells (bv z) 22)).setRow w.heap.size (bv rec)).heap[p]? = some (.cells (bv rec) 22)) := (hb1.block _ hps).trans hp
  have HC : Hid _ := zzadd_any w.heap.size 0 #[] #[] rec 22 node ((w.alloc (.cells (bv z) 22)).setRow w.heap.size (bv rec)) hs rfl hrec r1
  rw [← hX] at HC
  have HSP : Hid (Seg w p 0 (bv rec)) := seg_row hp
  have HR0 : Hid _ := r0
  have HZ22 : Hid _ := z22
  have HE0 : Hid _ := E0
  have HB0 : Hid _ := hb
  have HB1 : Hid _ := hb1
  clear hz z22 hX hq r0 E0 r1 hb1 hp hb
  subst hQ
  go_wp2_with (first
    | (refine wpList_load_seg rfl 22 (.tmp 10) rfl _ _ rfl (bv rec) _ (by exact HSP.out) Try.underlying22 rfl (by rw [Try.info22, bv_size, hrec]) ?_; simp only [Act.put, List.setIfInBounds_toArray, List.set_cons_succ, List.set_cons_zero])
    | (refine wpList_alloc_row rfl 22 rfl (.agg (bv z)) HZ22.out ?_; rw [cells_agg]; simp only [Act.put, List.setIfInBounds_toArray, List.set_cons_succ, List.set_cons_zero])
    | (refine wpList_store_seg rfl 22 (.tmp 19) (.tmp 61) rfl _ _ (bv rec) rfl rfl _ _ (by exact HR0.out) (by rw [Try.info22, bv_size, hrec]) (by rw [bv_size, bv_size, hrec, lz]; omega) (bv_one _) ?_; rw [HE0.out]; simp only [Act.put, List.setIfInBounds_toArray, List.set_cons_succ, List.set_cons_zero]))
  refine Calls.mono HC.out ?_
  rintro e w2 ⟨rfl, hg2, hb2⟩
  have HS19 : Hid (Seg w2 w.heap.size 0 (bv X)) := by
    have h := seg_part (off := 0) hg2 rfl
    exact h
  have HS10 : Hid (Seg w2 p 0 (bv rec)) := seg_row ((hb2.block _ (by have := HB1.out.size; omega) (by omega)).trans HP1.out)
  have HB2 : Hid (Below w0.heap.size w0 w2) := by
    have h0 := HB0.out.size
    refine (HB0.out.trans (HB1.out.mono h0)).trans (hb2.below h0 ?_)
    have := HB1.out.size
    omega
  clear HC HSP HR0 hg2 hb2 HP1 HB0 HB1
  cases q
  · go_wp2_with (first
      | (refine wpList_load_seg rfl 22 (.tmp 19) rfl _ _ rfl (bv X) _ (by exact HS19.out) Try.underlying22 rfl (by rw [Try.info22, bv_size, lX]) ?_; simp only [Act.put, List.setIfInBounds_toArray, List.set_cons_succ, List.set_cons_zero])
      | (refine wpList_load_seg rfl 22 (.tmp 10) rfl _ _ rfl (bv rec) _ (by exact HS10.out) Try.underlying22 rfl (by rw [Try.info22, bv_size, hrec]) ?_; simp only [Act.put, List.setIfInBounds_toArray, List.set_cons_succ, List.set_cons_zero]))
    go_ret
    exact ⟨rfl, HB2.out⟩
  · go_wp2_with (first
      | (refine wpList_load_seg rfl 22 (.tmp 19) rfl _ _ rfl (bv X) _ (by exact HS19.out) Try.underlying22 rfl (by rw [Try.info22, bv_size, lX]) ?_; simp only [Act.put, List.setIfInBounds_toArray, List.set_cons_succ, List.set_cons_zero])
      | (refine wpList_load_seg rfl 22 (.tmp 10) rfl _ _ rfl (bv rec) _ (by exact HS10.out) Try.underlying22 rfl (by rw [Try.info22, bv_size, hrec]) ?_; simp only [Act.put, List.setIfInBounds_toArray, List.set_cons_succ, List.set_cons_zero]))
    go_ret
    exact ⟨rfl, HB2.out⟩
end Go.Proofs.Qxb6612204a
