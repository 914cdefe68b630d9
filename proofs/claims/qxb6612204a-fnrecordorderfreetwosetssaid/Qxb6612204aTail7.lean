import Derived.Test.Qxb6612204aTail8
namespace Go.Proofs.Qxb6612204a
open Go.RowKit Plain
set_option linter.unusedVariables false
set_option linter.unusedSimpArgs false

set_option maxRecDepth 10000 in
set_option maxHeartbeats 4000000 in
theorem tail7 (node set : ByteArray) (a b : List UInt8) (Z : Nat) (w w2 : World) (hs : node.size ≤ maxLen) (ht : set.size ≤ maxLen) (ha : a.length = 1024) (hb : b.length = 1024) (hE : Env w a b Z w2)
    {u2 u3 u4 u5 u8 u11 u12 u13 u14 u15 u16 u17 u18 u19 u20 u21 u22 u23 u24 u25 u26 u27 u28 u29 u30 u31 u32 u33 u34 u35 u36 u37 u38 u39 u40 u41 u42 u43 u44 u45 u46 u47 u48 u49 u50 u51 u52 u53 u54 u55 u56 u57 u58 u59 u60 u61 u62 u63 u64 u65 u66 u67 u68 u69 u70 u71 u72 u73 u74 u75 u76 u77 u78 u79 u80 u81 u82 u83 u84 u85 u86 u87 u88 u89 u90 u91 u92 u93 u94 u95 u96 u97 u98 u99 u100 u101 u102 u103 u104 u105 u106 u107 u108 u109 u110 u111 u112 u113 u114 u115 u116 u117 u118 u119 u120 u121 u122 u123 u124 u125 u126 u127 u128 u129 u130 u131 u132 u133 : Value} (Q : Exit → Act → World → Prop) (hQ : Q = bodyPost Try.prog Try.f7 fun e w' => e = .returned (.bool true) ∧ Below w.heap.size w w') :
    Code.wp Try.prog (tl 5 (Try.f7.body.getD .skip)) Q ⟨#[.string node, .string set, u2, u3, u4, u5, .pointer (some ⟨w.heap.size, 0, none⟩), .pointer (some ⟨w.heap.size + 1, 0, none⟩), u8, .pointer (some ⟨Z, 0, none⟩), .pointer (some ⟨Z + 1, 0, none⟩), u11, u12, u13, u14, u15, u16, u17, u18, u19, u20, u21, u22, u23, u24, u25, u26, u27, u28, u29, u30, u31, u32, u33, u34, u35, u36, u37, u38, u39, u40, u41, u42, u43, u44, u45, u46, u47, u48, u49, u50, u51, u52, u53, u54, u55, u56, u57, u58, u59, u60, u61, u62, u63, u64, u65, u66, u67, u68, u69, u70, u71, u72, u73, u74, u75, u76, u77, u78, u79, u80, u81, u82, u83, u84, u85, u86, u87, u88, u89, u90, u91, u92, u93, u94, u95, u96, u97, u98, u99, u100, u101, u102, u103, u104, u105, u106, u107, u108, u109, u110, u111, u112, u113, u114, u115, u116, u117, u118, u119, u120, u121, u122, u123, u124, u125, u126, u127, u128, u129, u130, u131, u132, u133], []⟩ w2 := by
  delta Try.f7
  dsimp only [tl, Option.getD_some]
  have HE0 : Hid _ := hE
  have HNS : Hid (node.size ≤ maxLen) := hs
  have HTS : Hid (set.size ≤ maxLen) := ht
  clear hs ht hE
  subst hQ
  go_wp2
  rename_i K1 aK1
  have HK : Hid (∀ a w, _ → K1 a w) := aK1
  clear aK1
  obtain ⟨zz, hzz⟩ : ∃ z, z = zeros := ⟨_, rfl⟩
  have HZZ : Hid (zz = zeros) := hzz
  have lz : zz.length = 1024 := by rw [hzz, zeros_len]
  clear hzz
  have hi22 : (Try.prog.info? 22).map (·.size) = some (bv zz).toList.length := by rw [Array.length_toList, bv_size, lz]; exact Try.info22
  refine wp_region_held_drew (S := fun w' => Env w a b Z w') Try.follows ?_ (fun hHeld => ?_)
  · exact HE0.out.later (Below.refl _ _).drew
  refine wpAnyH_take (i := 0) (oi := { dst := some 34, op := .move (.tmp 0), type := 9, pos := "laws_internal_keeper_b1.go:343", after := #[], guard := none }) rfl (by kernel_rfl) (by kernel_rfl) (by kernel_rfl) (fun _ _ _ h => h) (Or.inl ⟨by rfl, fun w _ => by rfl⟩) hHeld ?_
  simp only [Act.put, List.setIfInBounds_toArray, List.set_cons_succ, List.set_cons_zero, Array.toArray_toList]
  refine wpAnyH_take (i := 1) (oi := { dst := some 35, op := .move (.tmp 1), type := 9, pos := "laws_internal_keeper_b1.go:343", after := #[], guard := none }) rfl (by kernel_rfl) (by kernel_rfl) (by kernel_rfl) (fun _ _ _ h => h) (Or.inl ⟨by rfl, fun w _ => by rfl⟩) hHeld ?_
  simp only [Act.put, List.setIfInBounds_toArray, List.set_cons_succ, List.set_cons_zero, Array.toArray_toList]
  refine wpAnyH_take (i := 2) (oi := { dst := some 36, op := .move (.tmp 0), type := 9, pos := "laws_internal_keeper_b1.go:343", after := #[], guard := none }) rfl (by kernel_rfl) (by kernel_rfl) (by kernel_rfl) (fun _ _ _ h => h) (Or.inl ⟨by rfl, fun w _ => by rfl⟩) hHeld ?_
  simp only [Act.put, List.setIfInBounds_toArray, List.set_cons_succ, List.set_cons_zero, Array.toArray_toList]
  refine wpAnyH_take (i := 3) (oi := { dst := some 37, op := .move (.tmp 1), type := 9, pos := "laws_internal_keeper_b1.go:343", after := #[], guard := none }) rfl (by kernel_rfl) (by kernel_rfl) (by kernel_rfl) (fun _ _ _ h => h) (Or.inl ⟨by rfl, fun w _ => by rfl⟩) hHeld ?_
  simp only [Act.put, List.setIfInBounds_toArray, List.set_cons_succ, List.set_cons_zero, Array.toArray_toList]
  refine wpAnyH_take (i := 5) (oi := { dst := some 39, op := .load 22 (.tmp 9), type := 22, pos := "laws_internal_keeper_b1.go:343", after := #[], guard := none }) rfl (by kernel_rfl) (by kernel_rfl) (by kernel_rfl) (fun _ _ _ h => h) (yieldsIf_load_mid (by rfl) 22 (.tmp 9) rfl Z 0 rfl (bv zz).toList _ (fun w h => by rw [HZZ.out]; exact range_bv (t := 22) h.z) Try.underlying22 rfl hi22) hHeld ?_
  simp only [Act.put, List.setIfInBounds_toArray, List.set_cons_succ, List.set_cons_zero, Array.toArray_toList]
  refine wpAnyH_take (i := 6) (oi := { dst := some 40, op := .load 22 (.tmp 9), type := 22, pos := "laws_internal_keeper_b1.go:343", after := #[], guard := none }) rfl (by kernel_rfl) (by kernel_rfl) (by kernel_rfl) (fun _ _ _ h => h) (yieldsIf_load_mid (by rfl) 22 (.tmp 9) rfl Z 0 rfl (bv zz).toList _ (fun w h => by rw [HZZ.out]; exact range_bv (t := 22) h.z) Try.underlying22 rfl hi22) hHeld ?_
  simp only [Act.put, List.setIfInBounds_toArray, List.set_cons_succ, List.set_cons_zero, Array.toArray_toList]
  refine wpAnyH_take (i := 7) (oi := { dst := some 41, op := .load 22 (.tmp 9), type := 22, pos := "laws_internal_keeper_b1.go:343", after := #[], guard := none }) rfl (by kernel_rfl) (by kernel_rfl) (by kernel_rfl) (fun _ _ _ h => h) (yieldsIf_load_mid (by rfl) 22 (.tmp 9) rfl Z 0 rfl (bv zz).toList _ (fun w h => by rw [HZZ.out]; exact range_bv (t := 22) h.z) Try.underlying22 rfl hi22) hHeld ?_
  simp only [Act.put, List.setIfInBounds_toArray, List.set_cons_succ, List.set_cons_zero, Array.toArray_toList]
  refine wpAnyH_take (i := 8) (oi := { dst := some 42, op := .load 24 (.tmp 10), type := 24, pos := "laws_internal_keeper_b1.go:343", after := #[], guard := none }) rfl (by kernel_rfl) (by kernel_rfl) (by kernel_rfl) (fun _ _ _ h => h) (yieldsIf_load_mid (by rfl) 24 (.tmp 10) rfl (Z + 1) 0 rfl [.int .u64 0, .int .u64 0] _ (fun w h => range24 (t := 24) h.o) Try.underlying24 rfl (by kernel_rfl)) hHeld ?_
  simp only [Act.put, List.setIfInBounds_toArray, List.set_cons_succ, List.set_cons_zero, Array.toArray_toList]
  refine wpAnyH_ready (rs := [4]) (by kernel_rfl) (by simp) ?_
  refine AllReadyH.cons rfl (fun K hK => ?_) AllReadyH.nil
  go_simp
  refine (zzrank_any node set _ HNS.out HTS.out).mono ?_
  rintro e w3 ⟨rfl, rfl⟩
  dsimp only
  refine hK.out _ _ hHeld (fun _ => ?_)
  clear hK K
  refine wpAnyH_ready (rs := [9]) (by kernel_rfl) (by simp) ?_
  refine AllReadyH.cons rfl (fun K hK => ?_) AllReadyH.nil
  go_simp
  refine (newState_any node set (rankL node.data.toList set.data.toList) 0 zz zz zz 0 0 0 0 _ lz lz lz).mono ?_
  rintro e w4 ⟨rfl, hg4, hb4, hz4⟩
  rw [HZZ.out] at hg4
  obtain ⟨sN, hsN⟩ : ∃ s, s = w2.drew.heap.size + 4 := ⟨_, rfl⟩
  rw [← hsN] at hg4 hz4 ⊢
  have HE1 : Hid (Env w a b Z w4) := hHeld.later hb4
  have hZ1 : Z + 1 < sN := by have := hHeld.size; omega
  have HR : Hid (Env w a b Z w4 ∧ Z + 1 < sN ∧ w4.heap[sN]? = some (.cells (stRow node set (rankL node.data.toList set.data.toList) 0 zeros tz) 64)) := ⟨HE1.out, hZ1, hg4⟩
  clear hsN hg4 hb4 hz4 hZ1
  dsimp only
  refine hK.out _ _ HE1.out (fun hHeld => ?_)
  clear hK K
  refine wpAnyH_take (i := 10) (oi := { dst := some 11, op := .assign (.tmp 43), type := 28, pos := "laws_internal_keeper_b1.go:343", after := #[⟨9, .data⟩, ⟨9, .chain⟩, ⟨0, .phase⟩, ⟨1, .phase⟩, ⟨2, .phase⟩, ⟨3, .phase⟩, ⟨4, .phase⟩, ⟨5, .phase⟩, ⟨6, .phase⟩, ⟨7, .phase⟩, ⟨8, .phase⟩, ⟨9, .phase⟩], guard := none }) rfl (by kernel_rfl) (by kernel_rfl) (by kernel_rfl) (fun _ _ _ h => h) (Or.inl ⟨by rfl, fun w _ => by rfl⟩) hHeld ?_
  simp only [Act.put, List.setIfInBounds_toArray, List.set_cons_succ, List.set_cons_zero, Array.toArray_toList]
  refine wpAnyH_done (by kernel_rfl) ?_ _
  clear hHeld HE0
  go_wp2_with fail
  exact HK.out _ _ (tail8 node set a b Z sN w w4 HNS.out HTS.out ha hb HR.out _ rfl)
end Go.Proofs.Qxb6612204a
