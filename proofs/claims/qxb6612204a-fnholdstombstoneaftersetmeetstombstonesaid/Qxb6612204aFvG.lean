import Derived.Test.Qxb6612204aFvF
namespace Go.Proofs.Qxb6612204a
open Go.RowKit Plain
set_option linter.unusedVariables false
set_option linter.unusedSimpArgs false

set_option maxRecDepth 10000 in
set_option maxHeartbeats 1000000 in
theorem five12 (node set : ByteArray) (rec T R T1 R1 : List UInt8) (f0 f1 : Int) (Z s1 t1 : Nat) (rank E own o1 h : Int) (m : Nat) (lastv : Value) (tb : Array Value) (q : Rk) (w wi : World) (hT1 : T1.length = 1024) (hR1 : R1.length = 1024) (hq : q.n ≤ 2) (hrec : rec.length = 1024) (hT : T.length = 1024) (hR : R.length = 1024) (hs : node.size ≤ maxLen) (ht : set.size ≤ maxLen) (hE0 : 0 ≤ E) (hE1 : E ≤ 18446744073709551615) (hm : m ≤ 2) (hF : Fin5 w rec T R f0 f1 Z s1 t1 node set rank h tb (m : Int) E wi) (hY : Way5 (!coversL R1 T1 || q.has own) o1 lastv h tb T1 R1 q E wi) (hT1e : T1 = maxL rec T) (hR1e : R1 = addL R (Plain.hash node.data.toList)) (hqe : q = (Rk.zero.merge ⟨f0, f1, m⟩).add own) (hrk : rank = (rankL node.data.toList set.data.toList)) (how : own = rankAtI rank E)
    {u2 u3 u4 u5 u8 u9 u14 u15 u16 u20 u24 u25 u26 u27 u28 u29 u30 u31 u32 u33 u34 u35 u36 u37 u38 u39 u40 u41 u42 u43 u44 u45 u46 u47 u48 u49 u50 u51 u52 u53 u54 u55 u56 u57 u58 u59 u60 u61 u62 u63 u64 u65 u66 u67 u68 u69 u70 u71 u72 u73 u74 u75 u76 u77 u78 u79 u80 u81 u82 u83 u84 u85 u86 u87 u88 u89 u90 u91 u92 u93 u94 u95 u96 u97 u98 u99 u100 u101 u102 u103 u104 u105 u106 u107 u108 u109 u110 u111 u112 u113 u114 u115 u116 u117 u118 u119 u120 u121 u122 u123 u124 u125 u126 u127 u128 u129 u130 u131 u132 u133 u134 u135 u136 u137 u138 u139 u140 u141 u142 u143 u144 u145 u146 u147 u148 u149 u150 u151 u152 u153 u154 u155 u156 u157 u158 u159 u160 u161 u162 u163 u164 u165 u166 u167 u168 u169 u170 u171 u172 u173 u174 u175 u176 u177 u178 u179 u180 u181 : Value} (Q : Exit → Act → World → Prop) (hQ : Q = bodyPost Try.prog Try.f5 fun e w' => e = .returned (.bool true) ∧ Below w.heap.size w w') :
    Code.wp Try.prog (tl 12 (Try.f5.body.getD .skip)) Q ⟨#[.string node, .string set, u2, u3, u4, u5, .int .i64 (m : Int), .int .u64 E, u8, u9, .pointer (some ⟨w.heap.size, 0, none⟩), .pointer (some ⟨w.heap.size + 1, 0, none⟩), .pointer (some ⟨w.heap.size + 2, 0, none⟩), .pointer (some ⟨w.heap.size + 3, 0, none⟩), u14, u15, u16, .pointer (some ⟨Z, 0, none⟩), .pointer (some ⟨Z + 1, 0, none⟩), .pointer (some ⟨s1, 0, none⟩), u20, .int .i64 o1, lastv, .pointer (some ⟨s1, 4, none⟩), u24, u25, u26, u27, u28, u29, u30, u31, u32, u33, u34, u35, u36, u37, u38, u39, u40, u41, u42, u43, u44, u45, u46, u47, u48, u49, u50, u51, u52, u53, u54, u55, u56, u57, u58, u59, u60, u61, u62, u63, u64, u65, u66, u67, u68, u69, u70, u71, u72, u73, u74, u75, u76, u77, u78, u79, u80, u81, u82, u83, u84, u85, u86, u87, u88, u89, u90, u91, u92, u93, u94, u95, u96, u97, u98, u99, u100, u101, u102, u103, u104, u105, u106, u107, u108, u109, u110, u111, u112, u113, u114, u115, u116, u117, u118, u119, u120, u121, u122, u123, u124, u125, u126, u127, u128, u129, u130, u131, u132, u133, u134, u135, u136, u137, u138, u139, u140, u141, u142, u143, u144, u145, u146, u147, u148, u149, u150, u151, u152, u153, u154, u155, u156, u157, u158, u159, u160, u161, u162, u163, u164, u165, u166, u167, u168, u169, u170, u171, u172, u173, u174, u175, u176, u177, u178, u179, u180, u181], []⟩ wi := by
  delta Try.f5
  dsimp only [tl, Option.getD_some]
  obtain ⟨z, hz⟩ : ∃ z, z = zeros := ⟨_, rfl⟩
  have HZ : Hid (z = zeros) := hz
  have lz : z.length = 1024 := by rw [hz, zeros_len]
  have HF : Hid _ := hF
  have HY : Hid _ := hY
  have HQ : Hid _ := hQ
  have HQE : Hid (T1 = maxL rec T ∧ R1 = addL R (Plain.hash node.data.toList) ∧ q = (Rk.zero.merge ⟨f0, f1, m⟩).add own ∧ rank = (rankL node.data.toList set.data.toList) ∧ own = rankAtI rank E) := ⟨hT1e, hR1e, hqe, hrk, how⟩
  clear hz hF hY hQ hqe hrk how hR1e hT1e
  apply wp_seq_k; intro K1 aK1
  have HK : Hid (∀ a w, _ → K1 a w) := aK1
  clear aK1
  have hn := later_some wi
  have sZ : Hid (∀ e : Later wi, Seg e.x Z 0 (bv z)) := fun e => by have h := (HF.out.later e.h).ev.z; rw [← HZ.out] at h; exact seg_row h
  have g1 : Hid (∀ e : Later wi, e.x.heap[s1]? = some (.cells (stRow node set rank h z tb) 64)) := fun e => by rw [HZ.out]; exact (HF.out.later e.h).g1
  have c27 : Hid (∀ e : Later wi, Calls Try.prog 27 #[.pointer (some ⟨s1, 4, none⟩)] e.x fun e' w' => e' = .returned (.agg (bv z)) ∧ Below e.x.heap.size e.x w') := fun e => sketchReg_any s1 4 z e.x lz (st_seg4 (g1.out e)) (Array.getElem?_eq_some_iff.1 (g1.out e)).1
  have heg := eqg22
  have hp1 := eql_nil ⟨s1, 4, none⟩
  have heq : ∀ w, (Op.equalIn 10000 22 (.agg (bv z)) (.agg (bv z))).run Try.prog w = .ok true w := in22 z lz
  go_wp2_with fail
  refine wp_region_later Try.follows (by kernel_rfl) ?_
  repeat (first
    | (go_big_quiet_want; refine later_load 22 (.tmp 17) rfl _ _ rfl _ _ sZ.out Try.underlying22 rfl (by rw [Try.info22, bv_size, lz]) ?_; simp only [Act.put, List.setIfInBounds_toArray, List.set_cons_succ, List.set_cons_zero]; go_big_quiet_on)
    | go_big_quiet_step ((go_at_call 27; exact later_call _ (c27.out _))))
  refine wpQuiet_nil ?_
  rintro ⟨w8, hb8⟩
  dsimp only
  have HF8 : Hid _ := HF.out.later hb8
  have HY8 : Hid _ := Way5.later HY.out hb8
  clear hb8 HF HY sZ g1 c27 hn
  go_wp2_with fail
  exact HK.out _ _ (five13 node set rec T R T1 R1 f0 f1 Z s1 t1 rank E own o1 h m lastv tb q w w8 hT1 hR1 hq hrec hT hR hs ht hE0 hE1 hm HF8.out HY8.out HQE.out.1 HQE.out.2.1 HQE.out.2.2.1 HQE.out.2.2.2.1 HQE.out.2.2.2.2 Q HQ.out)

set_option maxRecDepth 10000 in
set_option maxHeartbeats 1000000 in
theorem five11 (node set : ByteArray) (rec T R T1 R1 : List UInt8) (f0 f1 : Int) (Z s1 t1 : Nat) (rank E own o1 h : Int) (m : Nat) (lastv : Value) (tb : Array Value) (q : Rk) (w wi : World) (hT1 : T1.length = 1024) (hR1 : R1.length = 1024) (hq : q.n ≤ 2) (hrec : rec.length = 1024) (hT : T.length = 1024) (hR : R.length = 1024) (hs : node.size ≤ maxLen) (ht : set.size ≤ maxLen) (hE0 : 0 ≤ E) (hE1 : E ≤ 18446744073709551615) (hm : m ≤ 2) (hF : Fin5 w rec T R f0 f1 Z s1 t1 node set rank h tb (m : Int) E wi) (hY : Way5 (!coversL R1 T1 || q.has own) o1 lastv h tb T1 R1 q E wi) (hT1e : T1 = maxL rec T) (hR1e : R1 = addL R (Plain.hash node.data.toList)) (hqe : q = (Rk.zero.merge ⟨f0, f1, m⟩).add own) (hrk : rank = (rankL node.data.toList set.data.toList)) (how : own = rankAtI rank E)
    {u2 u3 u4 u5 u8 u9 u14 u15 u16 u20 u23 u24 u25 u26 u27 u28 u29 u30 u31 u32 u33 u34 u35 u36 u37 u38 u39 u40 u41 u42 u43 u44 u45 u46 u47 u48 u49 u50 u51 u52 u53 u54 u55 u56 u57 u58 u59 u60 u61 u62 u63 u64 u65 u66 u67 u68 u69 u70 u71 u72 u73 u74 u75 u76 u77 u78 u79 u80 u81 u82 u83 u84 u85 u86 u87 u88 u89 u90 u91 u92 u93 u94 u95 u96 u97 u98 u99 u100 u101 u102 u103 u104 u105 u106 u107 u108 u109 u110 u111 u112 u113 u114 u115 u116 u117 u118 u119 u120 u121 u122 u123 u124 u125 u126 u127 u128 u129 u130 u131 u132 u133 u134 u135 u136 u137 u138 u139 u140 u141 u142 u143 u144 u145 u146 u147 u148 u149 u150 u151 u152 u153 u154 u155 u156 u157 u158 u159 u160 u161 u162 u163 u164 u165 u166 u167 u168 u169 u170 u171 u172 u173 u174 u175 u176 u177 u178 u179 u180 u181 : Value} (Q : Exit → Act → World → Prop) (hQ : Q = bodyPost Try.prog Try.f5 fun e w' => e = .returned (.bool true) ∧ Below w.heap.size w w') :
    Code.wp Try.prog (tl 11 (Try.f5.body.getD .skip)) Q ⟨#[.string node, .string set, u2, u3, u4, u5, .int .i64 (m : Int), .int .u64 E, u8, u9, .pointer (some ⟨w.heap.size, 0, none⟩), .pointer (some ⟨w.heap.size + 1, 0, none⟩), .pointer (some ⟨w.heap.size + 2, 0, none⟩), .pointer (some ⟨w.heap.size + 3, 0, none⟩), u14, u15, u16, .pointer (some ⟨Z, 0, none⟩), .pointer (some ⟨Z + 1, 0, none⟩), .pointer (some ⟨s1, 0, none⟩), u20, .int .i64 o1, lastv, u23, u24, u25, u26, u27, u28, u29, u30, u31, u32, u33, u34, u35, u36, u37, u38, u39, u40, u41, u42, u43, u44, u45, u46, u47, u48, u49, u50, u51, u52, u53, u54, u55, u56, u57, u58, u59, u60, u61, u62, u63, u64, u65, u66, u67, u68, u69, u70, u71, u72, u73, u74, u75, u76, u77, u78, u79, u80, u81, u82, u83, u84, u85, u86, u87, u88, u89, u90, u91, u92, u93, u94, u95, u96, u97, u98, u99, u100, u101, u102, u103, u104, u105, u106, u107, u108, u109, u110, u111, u112, u113, u114, u115, u116, u117, u118, u119, u120, u121, u122, u123, u124, u125, u126, u127, u128, u129, u130, u131, u132, u133, u134, u135, u136, u137, u138, u139, u140, u141, u142, u143, u144, u145, u146, u147, u148, u149, u150, u151, u152, u153, u154, u155, u156, u157, u158, u159, u160, u161, u162, u163, u164, u165, u166, u167, u168, u169, u170, u171, u172, u173, u174, u175, u176, u177, u178, u179, u180, u181], []⟩ wi := by
  delta Try.f5
  dsimp only [tl, Option.getD_some]
  have HC : Hid _ := record_any s1 wi
  have HF : Hid _ := hF
  have HY : Hid _ := hY
  have HQ : Hid _ := hQ
  have HQE : Hid (T1 = maxL rec T ∧ R1 = addL R (Plain.hash node.data.toList) ∧ q = (Rk.zero.merge ⟨f0, f1, m⟩).add own ∧ rank = (rankL node.data.toList set.data.toList) ∧ own = rankAtI rank E) := ⟨hT1e, hR1e, hqe, hrk, how⟩
  clear hF hY hQ hqe hrk how hR1e hT1e
  apply wp_seq_k; intro K1 aK1
  have HK : Hid (∀ a w, _ → K1 a w) := aK1
  clear aK1
  go_wp2_with fail
  refine Calls.mono HC.out ?_
  rintro e w1 ⟨rfl, rfl⟩
  go_wp2_with fail
  exact HK.out _ _ (five12 node set rec T R T1 R1 f0 f1 Z s1 t1 rank E own o1 h m lastv tb q w _ hT1 hR1 hq hrec hT hR hs ht hE0 hE1 hm HF.out HY.out HQE.out.1 HQE.out.2.1 HQE.out.2.2.1 HQE.out.2.2.2.1 HQE.out.2.2.2.2 Q HQ.out)

set_option maxRecDepth 10000 in
set_option maxHeartbeats 1000000 in
theorem five10 (node set : ByteArray) (rec T R T1 R1 : List UInt8) (f0 f1 : Int) (Z s1 t1 : Nat) (rank E own o1 h : Int) (m : Nat) (lastv : Value) (tb : Array Value) (q : Rk) (w wi : World) (hT1 : T1.length = 1024) (hR1 : R1.length = 1024) (hq : q.n ≤ 2) (hrec : rec.length = 1024) (hT : T.length = 1024) (hR : R.length = 1024) (hs : node.size ≤ maxLen) (ht : set.size ≤ maxLen) (hE0 : 0 ≤ E) (hE1 : E ≤ 18446744073709551615) (hm : m ≤ 2) (hF : Fin5 w rec T R f0 f1 Z s1 t1 node set rank h tb (m : Int) E wi) (hY : Way5 (!coversL R1 T1 || q.has own) o1 lastv h tb T1 R1 q E wi) (hT1e : T1 = maxL rec T) (hR1e : R1 = addL R (Plain.hash node.data.toList)) (hqe : q = (Rk.zero.merge ⟨f0, f1, m⟩).add own) (hrk : rank = (rankL node.data.toList set.data.toList)) (how : own = rankAtI rank E)
    {u2 u3 u4 u5 u8 u9 u14 u15 u16 u23 u24 u25 u26 u27 u28 u29 u30 u31 u32 u33 u34 u35 u36 u37 u38 u39 u40 u41 u42 u43 u44 u45 u46 u47 u48 u49 u50 u51 u52 u53 u54 u55 u56 u57 u58 u59 u60 u61 u62 u63 u64 u65 u66 u67 u68 u69 u70 u71 u72 u73 u74 u75 u76 u77 u78 u79 u80 u81 u82 u83 u84 u85 u86 u87 u88 u89 u90 u91 u92 u93 u94 u95 u96 u97 u98 u99 u100 u101 u102 u103 u104 u105 u106 u107 u108 u109 u110 u111 u112 u113 u114 u115 u116 u117 u118 u119 u120 u121 u122 u123 u124 u125 u126 u127 u128 u129 u130 u131 u132 u133 u134 u135 u136 u137 u138 u139 u140 u141 u142 u143 u144 u145 u146 u147 u148 u149 u150 u151 u152 u153 u154 u155 u156 u157 u158 u159 u160 u161 u162 u163 u164 u165 u166 u167 u168 u169 u170 u171 u172 u173 u174 u175 u176 u177 u178 u179 u180 u181 : Value} (Q : Exit → Act → World → Prop) (hQ : Q = bodyPost Try.prog Try.f5 fun e w' => e = .returned (.bool true) ∧ Below w.heap.size w w') :
    Code.wp Try.prog (tl 10 (Try.f5.body.getD .skip)) Q ⟨#[.string node, .string set, u2, u3, u4, u5, .int .i64 (m : Int), .int .u64 E, u8, u9, .pointer (some ⟨w.heap.size, 0, none⟩), .pointer (some ⟨w.heap.size + 1, 0, none⟩), .pointer (some ⟨w.heap.size + 2, 0, none⟩), .pointer (some ⟨w.heap.size + 3, 0, none⟩), u14, u15, u16, .pointer (some ⟨Z, 0, none⟩), .pointer (some ⟨Z + 1, 0, none⟩), .pointer (some ⟨s1, 0, none⟩), .pointer (some ⟨t1, 0, none⟩), .int .i64 o1, lastv, u23, u24, u25, u26, u27, u28, u29, u30, u31, u32, u33, u34, u35, u36, u37, u38, u39, u40, u41, u42, u43, u44, u45, u46, u47, u48, u49, u50, u51, u52, u53, u54, u55, u56, u57, u58, u59, u60, u61, u62, u63, u64, u65, u66, u67, u68, u69, u70, u71, u72, u73, u74, u75, u76, u77, u78, u79, u80, u81, u82, u83, u84, u85, u86, u87, u88, u89, u90, u91, u92, u93, u94, u95, u96, u97, u98, u99, u100, u101, u102, u103, u104, u105, u106, u107, u108, u109, u110, u111, u112, u113, u114, u115, u116, u117, u118, u119, u120, u121, u122, u123, u124, u125, u126, u127, u128, u129, u130, u131, u132, u133, u134, u135, u136, u137, u138, u139, u140, u141, u142, u143, u144, u145, u146, u147, u148, u149, u150, u151, u152, u153, u154, u155, u156, u157, u158, u159, u160, u161, u162, u163, u164, u165, u166, u167, u168, u169, u170, u171, u172, u173, u174, u175, u176, u177, u178, u179, u180, u181], []⟩ wi := by
  delta Try.f5
  dsimp only [tl, Option.getD_some]
  have HC : Hid _ := tombIs_any t1 0 T R f0 f1 (m : Int) E wi hT hR (tbs_of_tomb hT hR hF.g2)
  have HSB : Hid _ := seg_row hF.ev.b
  have HSC : Hid _ := seg_row hF.ev.c
  have HSD : Hid _ := seg_row hF.ev.d
  have HF : Hid _ := hF
  have HY : Hid _ := hY
  have HQ : Hid _ := hQ
  have HQE : Hid (T1 = maxL rec T ∧ R1 = addL R (Plain.hash node.data.toList) ∧ q = (Rk.zero.merge ⟨f0, f1, m⟩).add own ∧ rank = (rankL node.data.toList set.data.toList) ∧ own = rankAtI rank E) := ⟨hT1e, hR1e, hqe, hrk, how⟩
  clear hF hY hQ hqe hrk how hR1e hT1e
  apply wp_seq_k; intro K1 aK1
  have HK : Hid (∀ a w, _ → K1 a w) := aK1
  clear aK1
  go_wp2_with (first
    | (refine wpList_load_seg rfl 22 (.tmp 11) rfl _ _ rfl (bv T) _ (by exact HSB.out) Try.underlying22 rfl (by rw [Try.info22, bv_size, hT]) ?_; simp only [Act.put, List.setIfInBounds_toArray, List.set_cons_succ, List.set_cons_zero])
    | (refine wpList_load_seg rfl 22 (.tmp 12) rfl _ _ rfl (bv R) _ (by exact HSC.out) Try.underlying22 rfl (by rw [Try.info22, bv_size, hR]) ?_; simp only [Act.put, List.setIfInBounds_toArray, List.set_cons_succ, List.set_cons_zero])
    | (refine wpList_load_seg rfl 24 (.tmp 13) rfl _ _ rfl #[.int .u64 f0, .int .u64 f1] _ (by exact HSD.out) Try.underlying24 rfl info24 ?_; simp only [Act.put, List.setIfInBounds_toArray, List.set_cons_succ, List.set_cons_zero]))
  refine Calls.mono HC.out ?_
  rintro e w1 ⟨rfl, hb1⟩
  have HB : Hid _ := hb1
  clear hb1 HC HSB HSC HSD
  go_wp2_with fail
  exact HK.out _ _ (five11 node set rec T R T1 R1 f0 f1 Z s1 t1 rank E own o1 h m lastv tb q w w1 hT1 hR1 hq hrec hT hR hs ht hE0 hE1 hm (HF.out.later HB.out) (Way5.later HY.out HB.out) HQE.out.1 HQE.out.2.1 HQE.out.2.2.1 HQE.out.2.2.2.1 HQE.out.2.2.2.2 Q HQ.out)
end Go.Proofs.Qxb6612204a
