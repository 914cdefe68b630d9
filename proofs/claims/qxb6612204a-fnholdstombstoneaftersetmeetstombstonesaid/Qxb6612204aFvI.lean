import Derived.Test.Qxb6612204aFvH
namespace Go.Proofs.Qxb6612204a
open Go.RowKit Plain
set_option linter.unusedVariables false
set_option linter.unusedSimpArgs false

set_option maxRecDepth 10000 in
set_option maxHeartbeats 4000000 in
theorem five7 (node set : ByteArray) (rec T R T1 R1 : List UInt8) (f0 f1 : Int) (Z : Nat) (rank E own : Int) (m : Nat) (q : Rk) (w wi : World) (hT1 : T1.length = 1024) (hR1 : R1.length = 1024) (hq : q.n ≤ 2) (hrec : rec.length = 1024) (hT : T.length = 1024) (hR : R.length = 1024) (hs : node.size ≤ maxLen) (ht : set.size ≤ maxLen) (hE0 : 0 ≤ E) (hE1 : E ≤ 18446744073709551615) (hm : m ≤ 2) (hV : Ev w rec T R f0 f1 Z wi) (hT1e : T1 = maxL rec T) (hR1e : R1 = addL R (Plain.hash node.data.toList)) (hqe : q = (Rk.zero.merge ⟨f0, f1, m⟩).add own) (hrk : rank = (rankL node.data.toList set.data.toList)) (how : own = rankAtI rank E)
    {u2 u3 u4 u5 u8 u9 u14 u15 u16 u19 u20 u21 u22 u23 u24 u25 u26 u27 u28 u29 u30 u31 u32 u33 u34 u35 u36 u37 u38 u39 u40 u41 u42 u43 u44 u45 u46 u47 u48 u49 u50 u51 u52 u53 u54 u55 u56 u57 u58 u59 u60 u61 u62 u63 u64 u65 u66 u67 u68 u69 u70 u71 u72 u73 u74 u75 u76 u77 u78 u79 u80 u81 u82 u83 u84 u85 u86 u87 u88 u89 u90 u91 u92 u93 u94 u95 u96 u97 u98 u99 u100 u101 u102 u103 u104 u105 u106 u107 u108 u109 u110 u111 u112 u113 u114 u115 u116 u117 u118 u119 u120 u121 u122 u123 u124 u125 u126 u127 u128 u129 u130 u131 u132 u133 u134 u135 u136 u137 u138 u139 u140 u141 u142 u143 u144 u145 u146 u147 u148 u149 u150 u151 u152 u153 u154 u155 u156 u157 u158 u159 u160 u161 u162 u163 u164 u165 u166 u167 u168 u169 u170 u171 u172 u173 u174 u175 u176 u177 u178 u179 u180 u181 : Value} (Q : Exit → Act → World → Prop) (hQ : Q = bodyPost Try.prog Try.f5 fun e w' => e = .returned (.bool true) ∧ Below w.heap.size w w') :
    Code.wp Try.prog (tl 7 (Try.f5.body.getD .skip)) Q ⟨#[.string node, .string set, u2, u3, u4, u5, .int .i64 (m : Int), .int .u64 E, u8, u9, .pointer (some ⟨w.heap.size, 0, none⟩), .pointer (some ⟨w.heap.size + 1, 0, none⟩), .pointer (some ⟨w.heap.size + 2, 0, none⟩), .pointer (some ⟨w.heap.size + 3, 0, none⟩), u14, u15, u16, .pointer (some ⟨Z, 0, none⟩), .pointer (some ⟨Z + 1, 0, none⟩), u19, u20, u21, u22, u23, u24, u25, u26, u27, u28, u29, u30, u31, u32, u33, u34, u35, u36, u37, u38, u39, u40, u41, u42, u43, u44, u45, u46, u47, u48, u49, u50, u51, u52, u53, u54, u55, u56, u57, u58, u59, u60, u61, u62, u63, u64, u65, u66, u67, u68, u69, u70, u71, u72, u73, u74, u75, u76, u77, u78, u79, u80, u81, u82, u83, u84, u85, u86, u87, u88, u89, u90, u91, u92, u93, u94, u95, u96, u97, u98, u99, u100, u101, u102, u103, u104, u105, u106, u107, u108, u109, u110, u111, u112, u113, u114, u115, u116, u117, u118, u119, u120, u121, u122, u123, u124, u125, u126, u127, u128, u129, u130, u131, u132, u133, u134, u135, u136, u137, u138, u139, u140, u141, u142, u143, u144, u145, u146, u147, u148, u149, u150, u151, u152, u153, u154, u155, u156, u157, u158, u159, u160, u161, u162, u163, u164, u165, u166, u167, u168, u169, u170, u171, u172, u173, u174, u175, u176, u177, u178, u179, u180, u181], []⟩ wi := by
  delta Try.f5
  dsimp only [tl, Option.getD_some]
  have HV : Hid _ := hV
  have HQE : Hid (T1 = maxL rec T ∧ R1 = addL R (Plain.hash node.data.toList) ∧ q = (Rk.zero.merge ⟨f0, f1, m⟩).add own ∧ rank = (rankL node.data.toList set.data.toList) ∧ own = rankAtI rank E) := ⟨hT1e, hR1e, hqe, hrk, how⟩
  clear hV hqe hrk how hR1e hT1e
  subst hQ
  go_wp2
  rename_i K1 aK1
  have HK : Hid (∀ a w, _ → K1 a w) := aK1
  clear aK1
  obtain ⟨zz, hzz⟩ : ∃ z, z = zeros := ⟨_, rfl⟩
  have HZZ : Hid (zz = zeros) := hzz
  have lz : zz.length = 1024 := by rw [hzz, zeros_len]
  clear hzz
  have hi22 : (Try.prog.info? 22).map (·.size) = some (bv zz).toList.length := by rw [Array.length_toList, bv_size, lz]; exact Try.info22
  have hi22r : (Try.prog.info? 22).map (·.size) = some (bv rec).toList.length := by rw [Array.length_toList, bv_size, hrec]; exact Try.info22
  refine wp_region_held_drew (S := Ev w rec T R f0 f1 Z) Try.follows ?_ (fun hHeld => ?_)
  · exact HV.out.later (Below.refl _ _).drew
  refine wpAnyH_take (i := 0) (oi := { dst := some 61, op := .move (.tmp 0), type := 9, pos := "laws_internal_keeper_b1.go:275", after := #[], guard := none }) rfl (by kernel_rfl) (by kernel_rfl) (by kernel_rfl) (fun _ _ _ h => h) (show YieldsIf Try.prog _ _ _ (.string node) _ from Or.inl ⟨by rfl, fun w _ => by rfl⟩) hHeld ?_
  simp only [Act.put, List.setIfInBounds_toArray, List.set_cons_succ, List.set_cons_zero, Array.toArray_toList]
  refine wpAnyH_take (i := 1) (oi := { dst := some 62, op := .move (.tmp 1), type := 9, pos := "laws_internal_keeper_b1.go:275", after := #[], guard := none }) rfl (by kernel_rfl) (by kernel_rfl) (by kernel_rfl) (fun _ _ _ h => h) (show YieldsIf Try.prog _ _ _ (.string set) _ from Or.inl ⟨by rfl, fun w _ => by rfl⟩) hHeld ?_
  simp only [Act.put, List.setIfInBounds_toArray, List.set_cons_succ, List.set_cons_zero, Array.toArray_toList]
  refine wpAnyH_take (i := 2) (oi := { dst := some 63, op := .move (.tmp 0), type := 9, pos := "laws_internal_keeper_b1.go:275", after := #[], guard := none }) rfl (by kernel_rfl) (by kernel_rfl) (by kernel_rfl) (fun _ _ _ h => h) (show YieldsIf Try.prog _ _ _ (.string node) _ from Or.inl ⟨by rfl, fun w _ => by rfl⟩) hHeld ?_
  simp only [Act.put, List.setIfInBounds_toArray, List.set_cons_succ, List.set_cons_zero, Array.toArray_toList]
  refine wpAnyH_take (i := 3) (oi := { dst := some 64, op := .move (.tmp 1), type := 9, pos := "laws_internal_keeper_b1.go:275", after := #[], guard := none }) rfl (by kernel_rfl) (by kernel_rfl) (by kernel_rfl) (fun _ _ _ h => h) (show YieldsIf Try.prog _ _ _ (.string set) _ from Or.inl ⟨by rfl, fun w _ => by rfl⟩) hHeld ?_
  simp only [Act.put, List.setIfInBounds_toArray, List.set_cons_succ, List.set_cons_zero, Array.toArray_toList]
  refine wpAnyH_take (i := 5) (oi := { dst := some 66, op := .load 22 (.tmp 10), type := 22, pos := "laws_internal_keeper_b1.go:275", after := #[], guard := none }) rfl (by kernel_rfl) (by kernel_rfl) (by kernel_rfl) (fun _ _ _ h => h) (yieldsIf_load_mid (by rfl) 22 (.tmp 10) rfl w.heap.size 0 rfl (bv rec).toList _ (fun w h => range_bv (t := 22) h.a) Try.underlying22 rfl hi22r) hHeld ?_
  simp only [Act.put, List.setIfInBounds_toArray, List.set_cons_succ, List.set_cons_zero, Array.toArray_toList]
  refine wpAnyH_take (i := 6) (oi := { dst := some 67, op := .load 22 (.tmp 17), type := 22, pos := "laws_internal_keeper_b1.go:275", after := #[], guard := none }) rfl (by kernel_rfl) (by kernel_rfl) (by kernel_rfl) (fun _ _ _ h => h) (yieldsIf_load_mid (by rfl) 22 (.tmp 17) rfl Z 0 rfl (bv zz).toList _ (fun w h => by rw [HZZ.out]; exact range_bv (t := 22) h.z) Try.underlying22 rfl hi22) hHeld ?_
  simp only [Act.put, List.setIfInBounds_toArray, List.set_cons_succ, List.set_cons_zero, Array.toArray_toList]
  refine wpAnyH_take (i := 7) (oi := { dst := some 68, op := .load 22 (.tmp 17), type := 22, pos := "laws_internal_keeper_b1.go:275", after := #[], guard := none }) rfl (by kernel_rfl) (by kernel_rfl) (by kernel_rfl) (fun _ _ _ h => h) (yieldsIf_load_mid (by rfl) 22 (.tmp 17) rfl Z 0 rfl (bv zz).toList _ (fun w h => by rw [HZZ.out]; exact range_bv (t := 22) h.z) Try.underlying22 rfl hi22) hHeld ?_
  simp only [Act.put, List.setIfInBounds_toArray, List.set_cons_succ, List.set_cons_zero, Array.toArray_toList]
  refine wpAnyH_take (i := 8) (oi := { dst := some 69, op := .load 24 (.tmp 18), type := 24, pos := "laws_internal_keeper_b1.go:275", after := #[], guard := none }) rfl (by kernel_rfl) (by kernel_rfl) (by kernel_rfl) (fun _ _ _ h => h) (yieldsIf_load_mid (by rfl) 24 (.tmp 18) rfl (Z + 1) 0 rfl [.int .u64 0, .int .u64 0] _ (fun w h => range24 (t := 24) h.o) Try.underlying24 rfl (by kernel_rfl)) hHeld ?_
  simp only [Act.put, List.setIfInBounds_toArray, List.set_cons_succ, List.set_cons_zero, Array.toArray_toList]
  refine wpAnyH_ready (rs := [4]) (by kernel_rfl) (by simp) ?_
  refine AllReadyH.cons rfl (fun K hK => ?_) AllReadyH.nil
  go_simp
  refine (zzrank_any node set _ hs ht).mono ?_
  rintro e w3 ⟨rfl, rfl⟩
  dsimp only
  refine hK.out _ _ hHeld (fun _ => ?_)
  clear hK K
  refine wpAnyH_ready (rs := [9]) (by kernel_rfl) (by simp) ?_
  refine AllReadyH.cons rfl (fun K hK => ?_) AllReadyH.nil
  go_simp
  refine (newState_any node set (rankL node.data.toList set.data.toList) 1 rec zz zz 0 0 0 0 _ hrec lz lz).mono ?_
  rintro e w4 ⟨rfl, hg4, hb4, hz4⟩
  rw [HZZ.out] at hg4
  obtain ⟨sN, hsN⟩ : ∃ s, s = wi.drew.heap.size + 4 := ⟨_, rfl⟩
  rw [← hsN] at hg4 hz4 ⊢
  have hS2 : Z + 1 < wi.drew.heap.size := hHeld.size
  have HV4 : Hid (Ev w rec T R f0 f1 Z w4) := hHeld.later hb4
  have HG4 : Hid (w4.heap[sN]? = some (.cells (stRow node set rank 1 rec (tombRow zeros zeros 0 0 0 0)) 64)) := by rw [HQE.out.2.2.2.1]; exact hg4
  have hlt : Z + 1 < sN := by omega
  clear hsN hg4 hb4 hz4 hS2
  dsimp only
  refine hK.out _ _ HV4.out (fun hHeld => ?_)
  clear hK K
  refine wpAnyH_take (i := 10) (oi := { dst := some 19, op := .assign (.tmp 70), type := 28, pos := "laws_internal_keeper_b1.go:275", after := #[⟨9, .data⟩, ⟨9, .chain⟩, ⟨0, .phase⟩, ⟨1, .phase⟩, ⟨2, .phase⟩, ⟨3, .phase⟩, ⟨4, .phase⟩, ⟨5, .phase⟩, ⟨6, .phase⟩, ⟨7, .phase⟩, ⟨8, .phase⟩, ⟨9, .phase⟩], guard := none }) rfl (by kernel_rfl) (by kernel_rfl) (by kernel_rfl) (fun _ _ _ h => h) (Or.inl ⟨by rfl, fun w _ => by rfl⟩) hHeld ?_
  simp only [Act.put, List.setIfInBounds_toArray, List.set_cons_succ, List.set_cons_zero, Array.toArray_toList]
  refine wpAnyH_done (by kernel_rfl) ?_ _
  clear hHeld HV
  go_wp2_with fail
  exact HK.out _ _ (five8 node set rec T R T1 R1 f0 f1 Z sN rank E own m q w w4 hT1 hR1 hq hrec hT hR hs ht hE0 hE1 hm HV4.out HG4.out hlt HQE.out.1 HQE.out.2.1 HQE.out.2.2.1 HQE.out.2.2.2.1 HQE.out.2.2.2.2 _ rfl)
end Go.Proofs.Qxb6612204a
