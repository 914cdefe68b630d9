import Derived.Test.Qxb6612204aFvI
namespace Go.Proofs.Qxb6612204a
open Go.RowKit Plain
set_option linter.unusedVariables false
set_option linter.unusedSimpArgs false

set_option maxRecDepth 10000 in
set_option maxHeartbeats 1000000 in
theorem five6 (node set : ByteArray) (rec T R T1 R1 : List UInt8) (f0 f1 : Int) (Z : Nat) (rank E own : Int) (m : Nat) (q : Rk) (w wi : World) (hT1 : T1.length = 1024) (hR1 : R1.length = 1024) (hq : q.n ≤ 2) (hrec : rec.length = 1024) (hT : T.length = 1024) (hR : R.length = 1024) (hs : node.size ≤ maxLen) (ht : set.size ≤ maxLen) (hE0 : 0 ≤ E) (hE1 : E ≤ 18446744073709551615) (hm : m ≤ 2) (hV : Ev w rec T R f0 f1 Z wi) (hT1e : T1 = maxL rec T) (hR1e : R1 = addL R (Plain.hash node.data.toList)) (hqe : q = (Rk.zero.merge ⟨f0, f1, m⟩).add own) (hrk : rank = (rankL node.data.toList set.data.toList)) (how : own = rankAtI rank E)
    {u2 u3 u4 u5 u8 u9 u14 u15 u16 u19 u20 u21 u22 u23 u24 u25 u26 u27 u28 u29 u30 u31 u32 u33 u34 u35 u36 u37 u38 u39 u40 u41 u42 u43 u44 u45 u46 u47 u48 u49 u50 u51 u52 u53 u54 u55 u56 u57 u58 u59 u60 u61 u62 u63 u64 u65 u66 u67 u68 u69 u70 u71 u72 u73 u74 u75 u76 u77 u78 u79 u80 u81 u82 u83 u84 u85 u86 u87 u88 u89 u90 u91 u92 u93 u94 u95 u96 u97 u98 u99 u100 u101 u102 u103 u104 u105 u106 u107 u108 u109 u110 u111 u112 u113 u114 u115 u116 u117 u118 u119 u120 u121 u122 u123 u124 u125 u126 u127 u128 u129 u130 u131 u132 u133 u134 u135 u136 u137 u138 u139 u140 u141 u142 u143 u144 u145 u146 u147 u148 u149 u150 u151 u152 u153 u154 u155 u156 u157 u158 u159 u160 u161 u162 u163 u164 u165 u166 u167 u168 u169 u170 u171 u172 u173 u174 u175 u176 u177 u178 u179 u180 u181 : Value} (Q : Exit → Act → World → Prop) (hQ : Q = bodyPost Try.prog Try.f5 fun e w' => e = .returned (.bool true) ∧ Below w.heap.size w w') :
    Code.wp Try.prog (tl 6 (Try.f5.body.getD .skip)) Q ⟨#[.string node, .string set, u2, u3, u4, u5, .int .i64 (m : Int), .int .u64 E, u8, u9, .pointer (some ⟨w.heap.size, 0, none⟩), .pointer (some ⟨w.heap.size + 1, 0, none⟩), .pointer (some ⟨w.heap.size + 2, 0, none⟩), .pointer (some ⟨w.heap.size + 3, 0, none⟩), u14, u15, u16, .pointer (some ⟨Z, 0, none⟩), .pointer (some ⟨Z + 1, 0, none⟩), u19, u20, u21, u22, u23, u24, u25, u26, u27, u28, u29, u30, u31, u32, u33, u34, u35, u36, u37, u38, u39, u40, u41, u42, u43, u44, u45, u46, u47, u48, u49, u50, u51, u52, u53, u54, u55, u56, u57, u58, u59, u60, u61, u62, u63, u64, u65, u66, u67, u68, u69, u70, u71, u72, u73, u74, u75, u76, u77, u78, u79, u80, u81, u82, u83, u84, u85, u86, u87, u88, u89, u90, u91, u92, u93, u94, u95, u96, u97, u98, u99, u100, u101, u102, u103, u104, u105, u106, u107, u108, u109, u110, u111, u112, u113, u114, u115, u116, u117, u118, u119, u120, u121, u122, u123, u124, u125, u126, u127, u128, u129, u130, u131, u132, u133, u134, u135, u136, u137, u138, u139, u140, u141, u142, u143, u144, u145, u146, u147, u148, u149, u150, u151, u152, u153, u154, u155, u156, u157, u158, u159, u160, u161, u162, u163, u164, u165, u166, u167, u168, u169, u170, u171, u172, u173, u174, u175, u176, u177, u178, u179, u180, u181], []⟩ wi := by
  delta Try.f5
  dsimp only [tl, Option.getD_some]
  obtain ⟨z, hz⟩ : ∃ z, z = zeros := ⟨_, rfl⟩
  have HZ : Hid (z = zeros) := hz
  have lz : z.length = 1024 := by rw [hz, zeros_len]
  clear hz
  have HC : Hid _ := reachable_any node rec z wi hs hrec HZ
  obtain ⟨b, hbb⟩ : ∃ b, decide (addL rec (Plain.hash node.data.toList) = rec) = b := ⟨_, rfl⟩
  rw [hbb] at HC
  have HSA : Hid _ := seg_row hV.a
  have HSZ : Hid (Seg wi Z 0 (bv z)) := by rw [HZ.out]; exact seg_row hV.z
  have HSO : Hid _ := seg_row hV.o
  have HV : Hid _ := hV
  have HQ : Hid _ := hQ
  have HQE : Hid (T1 = maxL rec T ∧ R1 = addL R (Plain.hash node.data.toList) ∧ q = (Rk.zero.merge ⟨f0, f1, m⟩).add own ∧ rank = (rankL node.data.toList set.data.toList) ∧ own = rankAtI rank E) := ⟨hT1e, hR1e, hqe, hrk, how⟩
  clear hV hqe hrk how hR1e hT1e hQ hbb
  apply wp_seq_k; intro K1 aK1
  have HK : Hid (∀ a w, _ → K1 a w) := aK1
  clear aK1
  go_wp2_with (first
    | (refine wpList_load_seg rfl 22 (.tmp 10) rfl _ _ rfl (bv rec) _ (by exact HSA.out) Try.underlying22 rfl (by rw [Try.info22, bv_size, hrec]) ?_; simp only [Act.put, List.setIfInBounds_toArray, List.set_cons_succ, List.set_cons_zero])
    | (refine wpList_load_seg rfl 22 (.tmp 17) rfl _ _ rfl (bv z) _ (by exact HSZ.out) Try.underlying22 rfl (by rw [Try.info22, bv_size, lz]) ?_; simp only [Act.put, List.setIfInBounds_toArray, List.set_cons_succ, List.set_cons_zero])
    | (refine wpList_load_seg rfl 24 (.tmp 18) rfl _ _ rfl #[.int .u64 0, .int .u64 0] _ (by exact HSO.out) Try.underlying24 rfl info24 ?_; simp only [Act.put, List.setIfInBounds_toArray, List.set_cons_succ, List.set_cons_zero]))
  refine Calls.mono HC.out ?_
  rintro e w1 ⟨rfl, hb1⟩
  have HV1 : Hid _ := HV.out.later hb1
  clear hb1 HC HSA HSZ HSO HV
  cases b
  · have hQ := HQ.out
    subst hQ
    go_wp2
    go_ret
    exact ⟨rfl, HV1.out.below⟩
  · go_wp2_with fail
    exact HK.out _ _ (five7 node set rec T R T1 R1 f0 f1 Z rank E own m q w w1 hT1 hR1 hq hrec hT hR hs ht hE0 hE1 hm HV1.out HQE.out.1 HQE.out.2.1 HQE.out.2.2.1 HQE.out.2.2.2.1 HQE.out.2.2.2.2 Q HQ.out)

set_option maxRecDepth 10000 in
set_option maxHeartbeats 1000000 in
theorem five2 (node set : ByteArray) (rec T R : List UInt8) (f0 f1 n E : Int) (w wi : World) (hrec : rec.length = 1024) (hT : T.length = 1024) (hR : R.length = 1024) (hs : node.size ≤ maxLen) (ht : set.size ≤ maxLen) (hE0 : 0 ≤ E) (hE1 : E ≤ 18446744073709551615) (ha : wi.heap[w.heap.size]? = some (.cells (bv rec) 22)) (hb : wi.heap[w.heap.size + 1]? = some (.cells (bv T) 22)) (hc : wi.heap[w.heap.size + 2]? = some (.cells (bv R) 22)) (hd : wi.heap[w.heap.size + 3]? = some (.cells #[.int .u64 f0, .int .u64 f1] 24)) (hB : Below w.heap.size w wi)
    {u2 u3 u4 u5 u8 u9 u14 u15 u16 u17 u18 u19 u20 u21 u22 u23 u24 u25 u26 u27 u28 u29 u30 u31 u32 u33 u34 u35 u36 u37 u38 u39 u40 u41 u42 u43 u44 u45 u46 u47 u48 u49 u50 u51 u52 u53 u54 u55 u56 u57 u58 u59 u60 u61 u62 u63 u64 u65 u66 u67 u68 u69 u70 u71 u72 u73 u74 u75 u76 u77 u78 u79 u80 u81 u82 u83 u84 u85 u86 u87 u88 u89 u90 u91 u92 u93 u94 u95 u96 u97 u98 u99 u100 u101 u102 u103 u104 u105 u106 u107 u108 u109 u110 u111 u112 u113 u114 u115 u116 u117 u118 u119 u120 u121 u122 u123 u124 u125 u126 u127 u128 u129 u130 u131 u132 u133 u134 u135 u136 u137 u138 u139 u140 u141 u142 u143 u144 u145 u146 u147 u148 u149 u150 u151 u152 u153 u154 u155 u156 u157 u158 u159 u160 u161 u162 u163 u164 u165 u166 u167 u168 u169 u170 u171 u172 u173 u174 u175 u176 u177 u178 u179 u180 u181 : Value} (Q : Exit → Act → World → Prop) (hQ : Q = bodyPost Try.prog Try.f5 fun e w' => e = .returned (.bool true) ∧ Below w.heap.size w w') :
    Code.wp Try.prog (tl 2 (Try.f5.body.getD .skip)) Q ⟨#[.string node, .string set, u2, u3, u4, u5, .int .i64 n, .int .u64 E, u8, u9, .pointer (some ⟨w.heap.size, 0, none⟩), .pointer (some ⟨w.heap.size + 1, 0, none⟩), .pointer (some ⟨w.heap.size + 2, 0, none⟩), .pointer (some ⟨w.heap.size + 3, 0, none⟩), u14, u15, u16, u17, u18, u19, u20, u21, u22, u23, u24, u25, u26, u27, u28, u29, u30, u31, u32, u33, u34, u35, u36, u37, u38, u39, u40, u41, u42, u43, u44, u45, u46, u47, u48, u49, u50, u51, u52, u53, u54, u55, u56, u57, u58, u59, u60, u61, u62, u63, u64, u65, u66, u67, u68, u69, u70, u71, u72, u73, u74, u75, u76, u77, u78, u79, u80, u81, u82, u83, u84, u85, u86, u87, u88, u89, u90, u91, u92, u93, u94, u95, u96, u97, u98, u99, u100, u101, u102, u103, u104, u105, u106, u107, u108, u109, u110, u111, u112, u113, u114, u115, u116, u117, u118, u119, u120, u121, u122, u123, u124, u125, u126, u127, u128, u129, u130, u131, u132, u133, u134, u135, u136, u137, u138, u139, u140, u141, u142, u143, u144, u145, u146, u147, u148, u149, u150, u151, u152, u153, u154, u155, u156, u157, u158, u159, u160, u161, u162, u163, u164, u165, u166, u167, u168, u169, u170, u171, u172, u173, u174, u175, u176, u177, u178, u179, u180, u181], []⟩ wi := by
  delta Try.f5
  dsimp only [tl, Option.getD_some]
  have HQ : Hid _ := hQ
  have HB : Hid _ := hB
  have HR4 : Hid (wi.heap[w.heap.size]? = some (.cells (bv rec) 22) ∧ wi.heap[w.heap.size + 1]? = some (.cells (bv T) 22) ∧ wi.heap[w.heap.size + 2]? = some (.cells (bv R) 22) ∧ wi.heap[w.heap.size + 3]? = some (.cells #[.int .u64 f0, .int .u64 f1] 24)) := ⟨ha, hb, hc, hd⟩
  have hsz : w.heap.size + 3 < wi.heap.size := (Array.getElem?_eq_some_iff.1 hd).1
  clear hQ hB ha hb hc hd
  have HS0 : Hid (node.size ≤ maxLen) := hs
  have HT0 : Hid (set.size ≤ maxLen) := ht
  unfold maxLen at hs ht
  by_cases h1 : (node.size : Int) ≤ 65536
  · by_cases h2 : (set.size : Int) ≤ 65536
    · by_cases h3 : n < 0
      · have hQ := HQ.out
        subst hQ
        go_wp2
        go_ret
        exact ⟨rfl, HB.out⟩
      · by_cases h4 : n ≤ 2
        · obtain ⟨m, rfl⟩ : ∃ m : Nat, n = (m : Int) := ⟨n.toNat, by omega⟩
          have hm : m ≤ 2 := by omega
          obtain ⟨z, hz⟩ : ∃ z, z = zeros := ⟨_, rfl⟩
          have HZ : Hid (z = zeros) := hz
          have z22 : (Try.prog.info? 22).map (·.zero) = some (some (.agg (bv z))) := by rw [hz]; exact zero22
          have HZ22 : Hid _ := z22
          clear hz z22
          apply wp_seq_k; intro K0 aK0
          have HK0 : Hid (∀ a w, _ → K0 a w) := aK0
          clear aK0
          go_wp2_with fail
          refine HK0.out _ _ ?_
          clear HK0 K0
          apply wp_seq_k; intro K0 aK0
          have HK0 : Hid (∀ a w, _ → K0 a w) := aK0
          clear aK0
          go_wp2_with fail
          refine HK0.out _ _ ?_
          clear HK0 K0
          apply wp_seq_k; intro K0 aK0
          have HK0 : Hid (∀ a w, _ → K0 a w) := aK0
          clear aK0
          go_wp2_with (first
            | (refine wpList_alloc_row rfl 22 rfl (.agg (bv z)) HZ22.out ?_; rw [cells_agg]; simp only [Act.put, List.setIfInBounds_toArray, List.set_cons_succ, List.set_cons_zero]))
          refine HK0.out _ _ ?_
          clear HK0 K0
          apply wp_seq_k; intro K0 aK0
          have HK0 : Hid (∀ a w, _ → K0 a w) := aK0
          clear aK0
          go_wp2_with fail
          refine HK0.out _ _ ?_
          clear HK0 K0
          have hb2 : Below wi.heap.size wi ((wi.alloc (.cells (bv z) 22)).alloc (.cells #[.int .u64 0, .int .u64 0] 24)) := ((Below.refl _ _).alloc (Nat.le_refl _) _).alloc (by simp) _
          have hz1 : ((wi.alloc (.cells (bv z) 22)).alloc (.cells #[.int .u64 0, .int .u64 0] 24)).heap[wi.heap.size]? = some (.cells (bv zeros) 22) := by rw [← HZ.out]; exact heap_alloc2_old _ _ _
          have ho1 : ((wi.alloc (.cells (bv z) 22)).alloc (.cells #[.int .u64 0, .int .u64 0] 24)).heap[wi.heap.size + 1]? = some (.cells #[.int .u64 0, .int .u64 0] 24) := heap_alloc2_new _ _ _
          have e1 : (wi.alloc (.cells (bv z) 22)).heap.size = wi.heap.size + 1 := by simp
          have hV : Ev w rec T R f0 f1 wi.heap.size ((wi.alloc (.cells (bv z) 22)).alloc (.cells #[.int .u64 0, .int .u64 0] 24)) :=
            ⟨(hb2.block _ (by omega)).trans HR4.out.1, (hb2.block _ (by omega)).trans HR4.out.2.1, (hb2.block _ (by omega)).trans HR4.out.2.2.1, (hb2.block _ (by omega)).trans HR4.out.2.2.2, hz1, ho1, hsz, HB.out.trans (hb2.mono HB.out.size)⟩
          try rw [e1]
          refine five6 node set rec T R (maxL rec T) (addL R (Plain.hash node.data.toList)) f0 f1 wi.heap.size (rankL node.data.toList set.data.toList) E (rankAtI (rankL node.data.toList set.data.toList) E) m ((Rk.zero.merge ⟨f0, f1, m⟩).add (rankAtI (rankL node.data.toList set.data.toList) E)) w _ ?_ ?_ ?_ hrec hT hR HS0.out HT0.out hE0 hE1 hm hV rfl rfl rfl rfl rfl Q HQ.out
          · rw [maxL_len _ _ (by omega), hrec]
          · rw [addL_len, hR]
          · exact Rk.add_le _ _ (Rk.merge_le _ _ (by decide))
        · have hQ := HQ.out
          subst hQ
          go_wp2
          go_ret
          exact ⟨rfl, HB.out⟩
    · have hQ := HQ.out
      subst hQ
      go_wp2
      go_ret
      exact ⟨rfl, HB.out⟩
  · have hQ := HQ.out
    subst hQ
    go_wp2
    go_ret
    exact ⟨rfl, HB.out⟩

end Go.Proofs.Qxb6612204a
