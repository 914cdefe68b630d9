import Derived.Test.Qxb6612204aFvA
namespace Go.Proofs.Qxb6612204a
open Go.RowKit Plain
set_option linter.unusedVariables false
set_option linter.unusedSimpArgs false

theorem seg_range {w : World} {g o : Nat} {cs : Array Value} (h : Seg w g o cs) : w.rangeAt g o cs.toList := by
  intro j v hv
  have hj : j < cs.size := by have := (List.getElem?_eq_some_iff.1 hv).1; simpa using this
  rw [h j hj]
  simpa using hv
theorem tbs_of_tomb {w : World} {g : Nat} {T R : List UInt8} {q0 q1 n E : Int} {t : TypeId} (hT : T.length = 1024) (hR : R.length = 1024) (h : w.heap[g]? = some (.cells (tombRow T R q0 q1 n E) t)) : TbS g 0 T R q0 q1 n E w := by
  have hs : Seg w g 2048 #[.int .u64 q0, .int .u64 q1, .int .i64 n, .int .u64 E] := by
    have e : tombRow T R q0 q1 n E = (bv T ++ bv R) ++ #[.int .u64 q0, .int .u64 q1, .int .i64 n, .int .u64 E] ++ #[] := by unfold tombRow; simp only [Array.append_empty]
    have h' := h
    rw [e] at h'
    exact seg_part h' (by simp [bv_size, hT, hR])
  refine ⟨seg_range (tb_segT h), ?_, ?_, hs 2 (by simp), hs 3 (by simp), (Array.getElem?_eq_some_iff.1 h).1⟩
  · have := seg_range (tb_segR hT h)
    rw [Nat.zero_add]; exact this
  · intro j v hv
    have hj : j < 2 := by have := (List.getElem?_eq_some_iff.1 hv).1; simpa using this
    have := hs j (by simp; omega)
    rw [Nat.zero_add, this]
    obtain rfl | rfl : j = 0 ∨ j = 1 := by omega
    · simpa using hv
    · simpa using hv
theorem tbs_of_state {w : World} {g : Nat} {node set : ByteArray} {rank h : Int} {rec T R : List UInt8} {q0 q1 n E : Int} (hr : rec.length = 1024) (hT : T.length = 1024) (hR : R.length = 1024) (hg : w.heap[g]? = some (.cells (stRow node set rank h rec (tombRow T R q0 q1 n E)) 64)) : TbS g 1028 T R q0 q1 n E w := by
  have hs : Seg w g 3076 #[.int .u64 q0, .int .u64 q1, .int .i64 n, .int .u64 E] := by
    have e : stRow node set rank h rec (tombRow T R q0 q1 n E) = (hd4 node set rank h ++ bv rec ++ bv T ++ bv R) ++ #[.int .u64 q0, .int .u64 q1, .int .i64 n, .int .u64 E] ++ #[] := by unfold stRow tombRow; simp only [Array.append_empty, Array.append_assoc]
    have h' := hg
    rw [e] at h'
    exact seg_part h' (szK _ _ _ _ _ _ _ hr hT hR).symm
  refine ⟨seg_range (st_segT hr hg), seg_range (st_segR hr hT hg), ?_, hs 2 (by simp), hs 3 (by simp), (Array.getElem?_eq_some_iff.1 hg).1⟩
  intro j v hv
  have hj : j < 2 := by have := (List.getElem?_eq_some_iff.1 hv).1; simpa using this
  have := hs j (by simp; omega)
  rw [show 1028 + 2048 = 3076 from rfl, this]
  obtain rfl | rfl : j = 0 ∨ j = 1 := by omega
  · simpa using hv
  · simpa using hv

/-- behind ReceiveTombstone -/
structure Fin5 (w : World) (rec T R : List UInt8) (f0 f1 : Int) (Z s1 t1 : Nat) (node set : ByteArray) (rank h : Int) (tb : Array Value) (n E : Int) (wi : World) : Prop where
  ev : Ev w rec T R f0 f1 Z wi
  g1 : wi.heap[s1]? = some (.cells (stRow node set rank h zeros tb) 64)
  g2 : wi.heap[t1]? = some (.cells (tombRow T R f0 f1 n E) 61)
theorem Fin5.later {w wi w2 : World} {rec T R : List UInt8} {f0 f1 : Int} {Z s1 t1 : Nat} {node set : ByteArray} {rank h : Int} {tb : Array Value} {n E : Int} (k : Fin5 w rec T R f0 f1 Z s1 t1 node set rank h tb n E wi) (hb : Below wi.heap.size wi w2) : Fin5 w rec T R f0 f1 Z s1 t1 node set rank h tb n E w2 :=
  ⟨k.ev.later hb, (hb.block _ (Array.getElem?_eq_some_iff.1 k.g1).1).trans k.g1, (hb.block _ (Array.getElem?_eq_some_iff.1 k.g2).1).trans k.g2⟩

/-- what is wanted, in the law's own rows -/
structure Wn (x y v : Nat) (T1 R1 : List UInt8) (q : Rk) (wi : World) : Prop where
  x : wi.heap[x]? = some (.cells (bv T1) 22)
  y : wi.heap[y]? = some (.cells (bv R1) 22)
  v : wi.heap[v]? = some (.cells #[.int .u64 q.r0, .int .u64 q.r1] 24)
theorem Wn.later {x y v : Nat} {T1 R1 : List UInt8} {q : Rk} {wi w2 : World} (k : Wn x y v T1 R1 q wi) (hb : Below wi.heap.size wi w2) : Wn x y v T1 R1 q w2 :=
  ⟨(hb.block _ (Array.getElem?_eq_some_iff.1 k.x).1).trans k.x, (hb.block _ (Array.getElem?_eq_some_iff.1 k.y).1).trans k.y, (hb.block _ (Array.getElem?_eq_some_iff.1 k.v).1).trans k.v⟩

set_option maxRecDepth 10000 in
set_option maxHeartbeats 4000000 in
theorem fin_kept (node set : ByteArray) (rec T R T1 R1 : List UInt8) (f0 f1 : Int) (Z s1 t1 x y v : Nat) (rank n E : Int) (q : Rk) (w wi : World) (hT1 : T1.length = 1024) (hR1 : R1.length = 1024)
    (hF : Fin5 w rec T R f0 f1 Z s1 t1 node set rank 2 (tombRow T1 R1 q.r0 q.r1 (q.n : Int) E) n E wi) (hW : Wn x y v T1 R1 q wi)
    {u0 u1 u2 u3 u4 u5 u6 u8 u9 u10 u11 u12 u13 u14 u15 u16 u17 u18 u20 u23 u26 u30 u31 u32 u33 u34 u35 u36 u37 u38 u39 u40 u41 u42 u43 u44 u45 u46 u47 u48 u49 u50 u51 u52 u53 u54 u55 u56 u57 u58 u59 u60 u61 u62 u63 u64 u65 u66 u67 u68 u69 u70 u71 u72 u73 u74 u75 u76 u77 u78 u79 u80 u81 u82 u83 u84 u85 u86 u87 u88 u89 u90 u91 u92 u93 u94 u95 u96 u97 u98 u99 u100 u101 u102 u103 u104 u105 u106 u107 u108 u109 u110 u111 u112 u113 u114 u115 u116 u117 u118 u119 u120 u121 u122 u123 u124 u125 u126 u127 u128 u129 u130 u131 u132 u133 u134 u135 u136 u137 u138 u139 u140 u141 u142 u143 u144 u145 u146 u147 u148 u149 u150 u151 u152 u153 u154 u155 u156 u157 u158 u159 u160 u161 u162 u163 u164 u165 u166 u167 u168 u169 u170 u171 u172 u173 u174 u175 u176 u177 u178 u179 u180 u181 : Value} (Q : Exit → Act → World → Prop) (hQ : Q = bodyPost Try.prog Try.f5 fun e w' => e = .returned (.bool true) ∧ Below w.heap.size w w') :
    Code.wp Try.prog (tl 19 (Try.f5.body.getD .skip)) Q ⟨#[u0, u1, u2, u3, u4, u5, u6, .int .u64 E, u8, u9, u10, u11, u12, u13, u14, u15, u16, u17, u18, .pointer (some ⟨s1, 0, none⟩), u20, .int .i64 1, .pointer none, u23, .pointer (some ⟨x, 0, none⟩), .pointer (some ⟨y, 0, none⟩), u26, .pointer (some ⟨v, 0, none⟩), .int .i64 (q.n : Int), .bool true, u30, u31, u32, u33, u34, u35, u36, u37, u38, u39, u40, u41, u42, u43, u44, u45, u46, u47, u48, u49, u50, u51, u52, u53, u54, u55, u56, u57, u58, u59, u60, u61, u62, u63, u64, u65, u66, u67, u68, u69, u70, u71, u72, u73, u74, u75, u76, u77, u78, u79, u80, u81, u82, u83, u84, u85, u86, u87, u88, u89, u90, u91, u92, u93, u94, u95, u96, u97, u98, u99, u100, u101, u102, u103, u104, u105, u106, u107, u108, u109, u110, u111, u112, u113, u114, u115, u116, u117, u118, u119, u120, u121, u122, u123, u124, u125, u126, u127, u128, u129, u130, u131, u132, u133, u134, u135, u136, u137, u138, u139, u140, u141, u142, u143, u144, u145, u146, u147, u148, u149, u150, u151, u152, u153, u154, u155, u156, u157, u158, u159, u160, u161, u162, u163, u164, u165, u166, u167, u168, u169, u170, u171, u172, u173, u174, u175, u176, u177, u178, u179, u180, u181], []⟩ wi := by
  delta Try.f5
  dsimp only [tl, Option.getD_some]
  have HF : Hid _ := hF
  have HW : Hid _ := hW
  clear hF hW
  subst hQ
  go_wp2_with fail
  have hn := later_some wi
  have sX : Hid (∀ e : Later wi, Seg e.x x 0 (bv T1)) := fun e => seg_row (HW.out.later e.h).x
  have sY : Hid (∀ e : Later wi, Seg e.x y 0 (bv R1)) := fun e => seg_row (HW.out.later e.h).y
  have sV : Hid (∀ e : Later wi, Seg e.x v 0 #[.int .u64 q.r0, .int .u64 q.r1]) := fun e => seg_row (HW.out.later e.h).v
  have g1 : Hid (∀ e : Later wi, e.x.heap[s1]? = some (.cells (stRow node set rank 2 zeros (tombRow T1 R1 q.r0 q.r1 (q.n : Int) E)) 64)) := fun e => (HF.out.later e.h).g1
  have e26 := eql26_nn
  have c17 : Hid (∀ e : Later wi, Calls Try.prog 17 #[.pointer (some ⟨s1, 0, none⟩)] e.x fun e' w' => e' = .returned (.bool true) ∧ Below e.x.heap.size e.x w') := fun e => (holdsTomb_any s1 node set rank 2 zeros _ e.x (g1.out e)).mono fun e' w' ⟨he, hw⟩ => ⟨he, by rw [hw]; exact Below.refl _ _⟩
  have c18 : Hid (∀ e : Later wi, Calls Try.prog 18 #[.pointer (some ⟨s1, 0, none⟩)] e.x fun e' w' => e' = .returned (.int .i64 2) ∧ Below e.x.heap.size e.x w') := fun e => (stateHolds_any s1 node set rank 2 zeros _ e.x (g1.out e)).mono fun e' w' ⟨he, hw⟩ => ⟨he, by rw [hw]; exact Below.refl _ _⟩
  have c19 : Hid (∀ e : Later wi, Calls Try.prog 19 #[.pointer (some ⟨s1, 0, none⟩)] e.x fun e' w' => e' = .returned (.pointer (some ⟨s1, 1028, none⟩)) ∧ Below e.x.heap.size e.x w') := fun e => (stateTomb_any s1 e.x).mono fun e' w' ⟨he, hw⟩ => ⟨he, by rw [hw]; exact Below.refl _ _⟩
  have c15 : Hid (∀ e : Later wi, Calls Try.prog 15 #[.pointer (some ⟨s1, 1028, none⟩), .agg (bv T1), .agg (bv R1), .agg #[.int .u64 q.r0, .int .u64 q.r1], .int .i64 (q.n : Int), .int .u64 E] e.x fun e' w' => e' = .returned (.bool true) ∧ Below e.x.heap.size e.x w') := fun e => tombIs_any s1 1028 T1 R1 q.r0 q.r1 (q.n : Int) E e.x hT1 hR1 (tbs_of_state zeros_len hT1 hR1 (g1.out e))
  refine wp_region_later Try.follows (by kernel_rfl) ?_
  repeat (first
    | (go_big_quiet_want; refine later_load 22 (.tmp 24) rfl _ _ rfl _ _ sX.out Try.underlying22 rfl (by rw [Try.info22, bv_size, hT1]) ?_; simp only [Act.put, List.setIfInBounds_toArray, List.set_cons_succ, List.set_cons_zero]; go_big_quiet_on)
    | (go_big_quiet_want; refine later_load 22 (.tmp 25) rfl _ _ rfl _ _ sY.out Try.underlying22 rfl (by rw [Try.info22, bv_size, hR1]) ?_; simp only [Act.put, List.setIfInBounds_toArray, List.set_cons_succ, List.set_cons_zero]; go_big_quiet_on)
    | (go_big_quiet_want; refine later_load 24 (.tmp 27) rfl _ _ rfl _ _ sV.out Try.underlying24 rfl info24 ?_; simp only [Act.put, List.setIfInBounds_toArray, List.set_cons_succ, List.set_cons_zero]; go_big_quiet_on)
    | go_big_quiet_step ((first | (go_at_call 17; exact later_call _ (c17.out _)) | (go_at_call 18; exact later_call _ (c18.out _)) | (go_at_call 19; exact later_call _ (c19.out _)) | (go_at_call 15; exact later_call _ (c15.out _)))))
  refine wpQuiet_nil ?_
  rintro ⟨w8, hb8⟩
  dsimp only
  have HE : Hid _ := HF.out.ev.later hb8
  clear hb8
  go_wp2
  go_ret
  exact ⟨rfl, HE.out.below⟩
end Go.Proofs.Qxb6612204a
