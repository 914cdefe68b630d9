import Derived.Test.Qxb6612204aFvB
namespace Go.Proofs.Qxb6612204a
open Go.RowKit Plain
set_option linter.unusedVariables false
set_option linter.unusedSimpArgs false

set_option maxRecDepth 10000 in
set_option maxHeartbeats 4000000 in
theorem fin_step (node set : ByteArray) (rec T R T1 R1 : List UInt8) (f0 f1 : Int) (Z s1 t1 x y v L : Nat) (rank n E : Int) (q : Rk) (w wi : World) (hT1 : T1.length = 1024) (hR1 : R1.length = 1024)
    (hF : Fin5 w rec T R f0 f1 Z s1 t1 node set rank 0 (tombRow zeros zeros 0 0 0 0) n E wi) (hW : Wn x y v T1 R1 q wi) (hL : wi.heap[L]? = some (.cells (tombRow T1 R1 q.r0 q.r1 (q.n : Int) E) 61))
    {u0 u1 u2 u3 u4 u5 u6 u8 u9 u10 u11 u12 u13 u14 u15 u16 u20 u23 u26 u30 u31 u32 u33 u34 u35 u36 u37 u38 u39 u40 u41 u42 u43 u44 u45 u46 u47 u48 u49 u50 u51 u52 u53 u54 u55 u56 u57 u58 u59 u60 u61 u62 u63 u64 u65 u66 u67 u68 u69 u70 u71 u72 u73 u74 u75 u76 u77 u78 u79 u80 u81 u82 u83 u84 u85 u86 u87 u88 u89 u90 u91 u92 u93 u94 u95 u96 u97 u98 u99 u100 u101 u102 u103 u104 u105 u106 u107 u108 u109 u110 u111 u112 u113 u114 u115 u116 u117 u118 u119 u120 u121 u122 u123 u124 u125 u126 u127 u128 u129 u130 u131 u132 u133 u134 u135 u136 u137 u138 u139 u140 u141 u142 u143 u144 u145 u146 u147 u148 u149 u150 u151 u152 u153 u154 u155 u156 u157 u158 u159 u160 u161 u162 u163 u164 u165 u166 u167 u168 u169 u170 u171 u172 u173 u174 u175 u176 u177 u178 u179 u180 u181 : Value} (Q : Exit → Act → World → Prop) (hQ : Q = bodyPost Try.prog Try.f5 fun e w' => e = .returned (.bool true) ∧ Below w.heap.size w w') :
    Code.wp Try.prog (tl 19 (Try.f5.body.getD .skip)) Q ⟨#[u0, u1, u2, u3, u4, u5, u6, .int .u64 E, u8, u9, u10, u11, u12, u13, u14, u15, u16, .pointer (some ⟨Z, 0, none⟩), .pointer (some ⟨Z + 1, 0, none⟩), .pointer (some ⟨s1, 0, none⟩), u20, .int .i64 2, .pointer (some ⟨L, 0, none⟩), u23, .pointer (some ⟨x, 0, none⟩), .pointer (some ⟨y, 0, none⟩), u26, .pointer (some ⟨v, 0, none⟩), .int .i64 (q.n : Int), .bool false, u30, u31, u32, u33, u34, u35, u36, u37, u38, u39, u40, u41, u42, u43, u44, u45, u46, u47, u48, u49, u50, u51, u52, u53, u54, u55, u56, u57, u58, u59, u60, u61, u62, u63, u64, u65, u66, u67, u68, u69, u70, u71, u72, u73, u74, u75, u76, u77, u78, u79, u80, u81, u82, u83, u84, u85, u86, u87, u88, u89, u90, u91, u92, u93, u94, u95, u96, u97, u98, u99, u100, u101, u102, u103, u104, u105, u106, u107, u108, u109, u110, u111, u112, u113, u114, u115, u116, u117, u118, u119, u120, u121, u122, u123, u124, u125, u126, u127, u128, u129, u130, u131, u132, u133, u134, u135, u136, u137, u138, u139, u140, u141, u142, u143, u144, u145, u146, u147, u148, u149, u150, u151, u152, u153, u154, u155, u156, u157, u158, u159, u160, u161, u162, u163, u164, u165, u166, u167, u168, u169, u170, u171, u172, u173, u174, u175, u176, u177, u178, u179, u180, u181], []⟩ wi := by
  delta Try.f5
  dsimp only [tl, Option.getD_some]
  obtain ⟨z, hz⟩ : ∃ z, z = zeros := ⟨_, rfl⟩
  have HZ : Hid (z = zeros) := hz
  have lz : z.length = 1024 := by rw [hz, zeros_len]
  clear hz
  have HF : Hid _ := hF
  have HW : Hid _ := hW
  have HL : Hid _ := hL
  clear hF hW hL
  subst hQ
  go_wp2_with fail
  have hn := later_some wi
  have sX : Hid (∀ e : Later wi, Seg e.x x 0 (bv T1)) := fun e => seg_row (HW.out.later e.h).x
  have sY : Hid (∀ e : Later wi, Seg e.x y 0 (bv R1)) := fun e => seg_row (HW.out.later e.h).y
  have sV : Hid (∀ e : Later wi, Seg e.x v 0 #[.int .u64 q.r0, .int .u64 q.r1]) := fun e => seg_row (HW.out.later e.h).v
  have sZ : Hid (∀ e : Later wi, Seg e.x Z 0 (bv z)) := fun e => by have h := (HF.out.later e.h).ev.z; rw [← HZ.out] at h; exact seg_row h
  have sO : Hid (∀ e : Later wi, Seg e.x (Z + 1) 0 #[.int .u64 0, .int .u64 0]) := fun e => seg_row (HF.out.later e.h).ev.o
  have g1 : Hid (∀ e : Later wi, e.x.heap[s1]? = some (.cells (stRow node set rank 0 zeros (tombRow z z 0 0 0 0)) 64)) := fun e => by rw [HZ.out]; exact (HF.out.later e.h).g1
  have gL : Hid (∀ e : Later wi, e.x.heap[L]? = some (.cells (tombRow T1 R1 q.r0 q.r1 (q.n : Int) E) 61)) := fun e => (e.h.block _ (Array.getElem?_eq_some_iff.1 HL.out).1).trans HL.out
  have c17 : Hid (∀ e : Later wi, Calls Try.prog 17 #[.pointer (some ⟨s1, 0, none⟩)] e.x fun e' w' => e' = .returned (.bool false) ∧ Below e.x.heap.size e.x w') := fun e => (holdsTomb_any s1 node set rank 0 zeros _ e.x (g1.out e)).mono fun e' w' ⟨he, hw⟩ => ⟨he, by rw [hw]; exact Below.refl _ _⟩
  have c18 : Hid (∀ e : Later wi, Calls Try.prog 18 #[.pointer (some ⟨s1, 0, none⟩)] e.x fun e' w' => e' = .returned (.int .i64 0) ∧ Below e.x.heap.size e.x w') := fun e => (stateHolds_any s1 node set rank 0 zeros _ e.x (g1.out e)).mono fun e' w' ⟨he, hw⟩ => ⟨he, by rw [hw]; exact Below.refl _ _⟩
  have c19 : Hid (∀ e : Later wi, Calls Try.prog 19 #[.pointer (some ⟨s1, 0, none⟩)] e.x fun e' w' => e' = .returned (.pointer (some ⟨s1, 1028, none⟩)) ∧ Below e.x.heap.size e.x w') := fun e => (stateTomb_any s1 e.x).mono fun e' w' ⟨he, hw⟩ => ⟨he, by rw [hw]; exact Below.refl _ _⟩
  have c15 : Hid (∀ e : Later wi, Calls Try.prog 15 #[.pointer (some ⟨L, 0, none⟩), .agg (bv T1), .agg (bv R1), .agg #[.int .u64 q.r0, .int .u64 q.r1], .int .i64 (q.n : Int), .int .u64 E] e.x fun e' w' => e' = .returned (.bool true) ∧ Below e.x.heap.size e.x w') := fun e => tombIs_any L 0 T1 R1 q.r0 q.r1 (q.n : Int) E e.x hT1 hR1 (tbs_of_tomb hT1 hR1 (gL.out e))
  have c15z : Hid (∀ e : Later wi, Calls Try.prog 15 #[.pointer (some ⟨s1, 1028, none⟩), .agg (bv z), .agg (bv z), .agg #[.int .u64 0, .int .u64 0], .int .i64 0, .int .u64 0] e.x fun e' w' => e' = .returned (.bool true) ∧ Below e.x.heap.size e.x w') := fun e => tombIs_any s1 1028 z z 0 0 0 0 e.x lz lz (tbs_of_state zeros_len lz lz (g1.out e))
  refine wp_region_later Try.follows (by kernel_rfl) ?_
  iterate 27 (first
    | (go_big_quiet_want; refine later_load 22 (.tmp 24) rfl _ _ rfl _ _ sX.out Try.underlying22 rfl (by rw [Try.info22, bv_size, hT1]) ?_; simp only [Act.put, List.setIfInBounds_toArray, List.set_cons_succ, List.set_cons_zero]; go_big_quiet_on)
    | (go_big_quiet_want; refine later_load 22 (.tmp 25) rfl _ _ rfl _ _ sY.out Try.underlying22 rfl (by rw [Try.info22, bv_size, hR1]) ?_; simp only [Act.put, List.setIfInBounds_toArray, List.set_cons_succ, List.set_cons_zero]; go_big_quiet_on)
    | (go_big_quiet_want; refine later_load 24 (.tmp 27) rfl _ _ rfl _ _ sV.out Try.underlying24 rfl info24 ?_; simp only [Act.put, List.setIfInBounds_toArray, List.set_cons_succ, List.set_cons_zero]; go_big_quiet_on)
    | (go_big_quiet_want; refine later_load 22 (.tmp 17) rfl _ _ rfl _ _ sZ.out Try.underlying22 rfl (by rw [Try.info22, bv_size, lz]) ?_; simp only [Act.put, List.setIfInBounds_toArray, List.set_cons_succ, List.set_cons_zero]; go_big_quiet_on)
    | (go_big_quiet_want; refine later_load 24 (.tmp 18) rfl _ _ rfl _ _ sO.out Try.underlying24 rfl info24 ?_; simp only [Act.put, List.setIfInBounds_toArray, List.set_cons_succ, List.set_cons_zero]; go_big_quiet_on)
    | go_big_quiet_step ((first | (go_at_call 17; exact later_call _ (c17.out _)) | (go_at_call 18; exact later_call _ (c18.out _)) | (go_at_call 19; exact later_call _ (c19.out _)) | (go_at_call 15; exact later_call _ (c15.out _)))))
  repeat (go_big_quiet_step ((go_at_call 15; exact later_call _ (c15z.out _))))
  refine wpQuiet_nil ?_
  rintro ⟨w8, hb8⟩
  dsimp only
  have HE : Hid _ := HF.out.ev.later hb8
  clear hb8
  go_wp2
  go_ret
  exact ⟨rfl, HE.out.below⟩
end Go.Proofs.Qxb6612204a
