import Derived.Test.Qxb6612204aPtr
namespace Go.Proofs.Qxb6612204a
open Go.RowKit Plain
set_option linter.unusedVariables false

theorem Two.butO {w wi w2 : World} {a b : List UInt8} {Z s1 s2 g : Nat} {node set : ByteArray} {rank h1 h2 : Int} {r1 r2 : List UInt8} (h : Two w a b Z s1 s2 node set rank h1 h2 r1 r2 wi) (hb : But g wi w2) (hg : s2 < g) : Two w a b Z s1 s2 node set rank h1 h2 r1 r2 w2 :=
  have := h.size
  have := h.lt2
  have := h.lt1
  ⟨h.env.but hb (by omega), (hb.block _ (by omega) (by omega)).trans h.g1, (hb.block _ (by omega) (by omega)).trans h.g2, h.lt1, h.lt2⟩
theorem Try.eqg22 : Try.prog.eqGuardType Try.prog.depth 22 = false := by kernel_rfl
theorem Try.info5 : (Try.prog.info? 5).map (·.size) = some 1 := by kernel_rfl

set_option maxRecDepth 10000 in
set_option maxHeartbeats 4000000 in
theorem tail19 (node set : ByteArray) (a b : List UInt8) (Z s1 s2 : Nat) (rank : Int) (w w0 : World) (hs : node.size ≤ maxLen) (ha : a.length = 1024) (hb : b.length = 1024)
    (hT : Two w a b Z s1 s2 node set rank 1 1 (addL (maxL a b) (Plain.hash node.data.toList)) (addL (maxL a b) (Plain.hash node.data.toList)) w0)
    {u1 u2 u3 u4 u5 u8 u9 u10 u19 u20 u21 u22 u23 u24 u25 u26 u27 u28 u29 u30 u31 u32 u33 u34 u35 u36 u37 u38 u39 u40 u41 u42 u43 u44 u45 u46 u47 u48 u49 u50 u51 u52 u53 u54 u55 u56 u57 u58 u59 u60 u61 u62 u63 u64 u65 u66 u67 u68 u69 u70 u71 u72 u73 u74 u75 u76 u77 u78 u79 u80 u81 u82 u83 u84 u85 u86 u87 u88 u89 u90 u91 u92 u93 u94 u95 u96 u97 u98 u99 u100 u101 u102 u103 u104 u105 u106 u107 u108 u109 u110 u111 u112 u113 u114 u115 u116 u117 u118 u119 u120 u121 u122 u123 u124 u125 u126 u127 u128 u129 u130 u131 u132 u133 : Value} (Q : Exit → Act → World → Prop) (hQ : Q = bodyPost Try.prog Try.f7 fun e w' => e = .returned (.bool true) ∧ Below w.heap.size w w') :
    Code.wp Try.prog (tl 15 (Try.f7.body.getD .skip)) Q ⟨#[.string node, u1, u2, u3, u4, u5, .pointer (some ⟨w.heap.size, 0, none⟩), .pointer (some ⟨w.heap.size + 1, 0, none⟩), u8, u9, u10, .pointer (some ⟨s1, 0, none⟩), .pointer (some ⟨s2, 0, none⟩), .pointer (some ⟨s1, 4, none⟩), .pointer (some ⟨s2, 4, none⟩), .bool true, .bool true, .bool true, .bool true, u19, u20, u21, u22, u23, u24, u25, u26, u27, u28, u29, u30, u31, u32, u33, u34, u35, u36, u37, u38, u39, u40, u41, u42, u43, u44, u45, u46, u47, u48, u49, u50, u51, u52, u53, u54, u55, u56, u57, u58, u59, u60, u61, u62, u63, u64, u65, u66, u67, u68, u69, u70, u71, u72, u73, u74, u75, u76, u77, u78, u79, u80, u81, u82, u83, u84, u85, u86, u87, u88, u89, u90, u91, u92, u93, u94, u95, u96, u97, u98, u99, u100, u101, u102, u103, u104, u105, u106, u107, u108, u109, u110, u111, u112, u113, u114, u115, u116, u117, u118, u119, u120, u121, u122, u123, u124, u125, u126, u127, u128, u129, u130, u131, u132, u133], []⟩ w0 := by
  delta Try.f7
  dsimp only [tl, Option.getD_some]
  obtain ⟨mx, hmx⟩ : ∃ r, r = maxL a b := ⟨_, rfl⟩
  have HMX : Hid (mx = maxL a b) := hmx
  have l1 : mx.length = 1024 := by rw [hmx, maxL_len _ _ (by omega), ha]
  rw [← hmx] at hT
  clear hmx
  have HT0 : Hid _ := hT
  have HNS : Hid (node.size ≤ maxLen) := hs
  clear hs hT
  subst hQ
  go_wp2_with (first
    | (refine wpList_load_seg rfl 22 (.tmp 6) rfl _ _ rfl (bv a) _ ?_ Try.underlying22 rfl ?_ ?_; (exact seg_row HT0.out.env.a); (rw [Try.info22, bv_size, ha]); simp only [Act.put, List.setIfInBounds_toArray, List.set_cons_succ, List.set_cons_zero])
    | (refine wpList_load_seg rfl 22 (.tmp 7) rfl _ _ rfl (bv b) _ ?_ Try.underlying22 rfl ?_ ?_; (exact seg_row HT0.out.env.b); (rw [Try.info22, bv_size, hb]); simp only [Act.put, List.setIfInBounds_toArray, List.set_cons_succ, List.set_cons_zero]))
  refine (zzmax_any a b _ ha hb).mono ?_
  rw [← HMX.out]
  rintro e w5 ⟨rfl, hb5⟩
  have HT5 : Hid _ := HT0.out.later hb5
  clear hb5 HT0
  have HR5 : Hid ((w5.alloc (.cells (bv zeros) 22)).heap[w5.heap.size]? = some (.cells (bv zeros) 22)) := heap_alloc_new _ _
  go_wp2_with (first
    | (refine wpList_alloc_row rfl 22 rfl (.agg (bv zeros)) zero22 ?_; rw [cells_agg]; simp only [Act.put, List.setIfInBounds_toArray, List.set_cons_succ, List.set_cons_zero])
    | (refine wpList_store_seg rfl 22 (.tmp 19) (.tmp 97) rfl w5.heap.size 0 (bv mx) rfl rfl 22 (bv zeros) (by exact HR5.out) (by rw [Try.info22, bv_size, l1]) (by rw [bv_size, bv_size, l1, zeros_len]; omega) (bv_one _) ?_))
  have hn5 : s2 < w5.heap.size := HT5.out.size
  have HT6 : Hid (Two w a b Z s1 s2 node set rank 1 1 (addL mx (Plain.hash node.data.toList)) (addL mx (Plain.hash node.data.toList)) ((w5.alloc (.cells (bv zeros) 22)).setRow w5.heap.size (over (bv zeros) 0 (bv mx)))) :=
    (HT5.out.later ((Below.refl _ _).alloc (Nat.le_refl _) _)).butO (But.setRow _ _ _) hn5
  have HG6 : Hid (((w5.alloc (.cells (bv zeros) 22)).setRow w5.heap.size (over (bv zeros) 0 (bv mx))).heap[w5.heap.size]? = some (.cells (#[] ++ bv mx ++ #[]) 22)) := by
    have e := over_all (bv zeros) (bv mx) (by rw [bv_size, bv_size, l1, zeros_len])
    exact (setRow_heap _ _ _ _ _ _ HR5.out).trans (by rw [e]; simp)
  generalize (w5.alloc (.cells (bv zeros) 22)).setRow w5.heap.size (over (bv zeros) 0 (bv mx)) = w6 at HT6 HG6 ⊢
  obtain ⟨M, hM⟩ : ∃ M, M = w5.heap.size := ⟨_, rfl⟩
  rw [← hM] at HG6 hn5 ⊢
  clear hM HR5 HT5
  go_wp2_with fail
  refine (zzadd_any M 0 #[] #[] mx 22 node w6 HNS.out rfl l1 HG6.out).mono ?_
  obtain ⟨X, hX⟩ : ∃ X, X = addL mx (Plain.hash node.data.toList) := ⟨_, rfl⟩
  rw [← hX] at HT6 ⊢
  have lX : X.length = 1024 := by rw [hX, addL_len, l1]
  clear hX
  rintro e w7 ⟨rfl, hg7, hb7⟩
  have HT7 : Hid _ := HT6.out.butO hb7 hn5
  have HG7 : Hid (w7.heap[M]? = some (.cells (bv X) 22)) := by
    show _ = _
    have := hg7
    simpa using this
  clear hg7 hb7 HT6 HG6
  go_wp2
  have hM7 : M < w7.heap.size := (Array.getElem?_eq_some_iff.1 HG7.out).1
  have hn := later_some w7
  have sM : Hid (∀ e : Later w7, Seg e.x M 0 (bv X)) := fun e => seg_row ((e.h.block _ hM7).trans HG7.out)
  have q1 : Hid (∀ e : Later w7, Seg e.x s1 4 (bv X)) := fun e => stRow_seg (HT7.out.later e.h).g1
  have q2 : Hid (∀ e : Later w7, Seg e.x s2 4 (bv X)) := fun e => stRow_seg (HT7.out.later e.h).g2
  have z1 : Hid (∀ e : Later w7, s1 < e.x.heap.size) := fun e => by have := (HT7.out.later e.h).size; have := HT7.out.lt2; omega
  have z2 : Hid (∀ e : Later w7, s2 < e.x.heap.size) := fun e => (HT7.out.later e.h).size
  have heg := Try.eqg22
  have heg47 := Try.eqg47
  have hp1 := eql_same ⟨s1, 4, none⟩
  have hp2 := eql_same ⟨s2, 4, none⟩
  have heq : ∀ w, (Op.equalIn 10000 22 (.agg (bv X)) (.agg (bv X))).run Try.prog w = .ok true w := fun w => by
    rw [equalIn_bv (P := Try.prog) w 9998 22 5 1024 Try.underlying22 Try.underlying5 Try.info5 _ _ lX lX]; simp
  refine wp_region_later Try.follows (by kernel_rfl) ?_
  repeat (first
    | (go_big_quiet_want; refine later_load 22 (.tmp 19) rfl _ _ rfl _ _ sM.out Try.underlying22 rfl (by rw [Try.info22, bv_size, lX]) ?_; simp only [Act.put, List.setIfInBounds_toArray, List.set_cons_succ, List.set_cons_zero]; go_big_quiet_on)
    | go_big_quiet_step ((first | (go_at_call 30; exact later_call _ ((record_any _ _).mono fun e w' ⟨he, hw⟩ => ⟨he, by rw [hw]; exact Below.refl _ _⟩)) | (go_at_call 27; first | exact later_call _ (sketchReg_any s1 4 X _ lX (q1.out _) (z1.out _)) | exact later_call _ (sketchReg_any s2 4 X _ lX (q2.out _) (z2.out _))))))
  refine wpQuiet_nil ?_
  rintro ⟨w8, hb8⟩
  dsimp only
  have HT8 : Hid _ := HT7.out.later hb8
  clear hb8
  go_wp2
  go_ret
  exact ⟨rfl, HT8.out.env.below⟩
end Go.Proofs.Qxb6612204a
