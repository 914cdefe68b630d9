import Derived.Test.Qxb6612204aWalkU
namespace Go.Proofs.Qxb6612204a
open Go.RowKit Plain
set_option linter.unusedVariables false
set_option linter.unusedSimpArgs false

theorem Try.info61 : (Try.prog.info? 61).map (·.size) = some 2052 := by kernel_rfl
theorem built61_nil : Try.prog.built 61 [] = some (tombRow zeros zeros 0 0 0 0) := by
  rw [built_struct 61 _ _ _ _ zero61 und61 pl61, cells_agg]; rfl
theorem built57_nil : Try.prog.built 57 [] = some (bv zeros) := by
  rw [built_struct 57 _ _ _ _ zero57 und57 pl57, cells_agg]; rfl
theorem run_zero {P : Program} {t : TypeId} {z : Value} (h : (P.info? t).map (·.zero) = some (some z)) (w : World) : (zeroValue t).run P w = .ok z w := by
  cases hq : P.info? t with
  | none => simp [hq] at h
  | some i =>
    have hz : i.zero = some z := by simpa [hq] using h
    simp [zeroValue, Sem.run_bind, typeInfo, hq, hz]
theorem tomb_one (T R : List UInt8) (r0 r1 n e : Int) : (tombRow T R r0 r1 n e).all (·.oneCell') = true := by
  unfold tombRow; rw [Array.all_append, Array.all_append, bv_one, bv_one]; simp [Value.oneCell']

/-- what ReceiveTombstone leaves, when the node held the set -/
structure RtEnd (g : Nat) (w0 : World) (node set : ByteArray) (rank : Int) (T R : List UInt8) (q : Rk) (E own : Int) (e : Ending) (w' : World) : Prop where
  but : But g w0 w'
  way : ((!coversL R T || q.has own) = true ∧ e = .returned (.tuple #[.int .i64 1, .pointer none]) ∧ w'.heap[g]? = some (.cells (stRow node set rank 2 zeros (tombRow T R q.r0 q.r1 (q.n : Int) E)) 64)) ∨
    ((!coversL R T || q.has own) = false ∧ ∃ L, w0.heap.size ≤ L ∧ e = .returned (.tuple #[.int .i64 2, .pointer (some ⟨L, 0, none⟩)]) ∧ w'.heap[L]? = some (.cells (tombRow T R q.r0 q.r1 (q.n : Int) E) 61) ∧ w'.heap[g]? = some (.cells (stRow node set rank 0 zeros (tombRow zeros zeros 0 0 0 0)) 64))

set_option maxRecDepth 10000 in
set_option maxHeartbeats 1000000 in
theorem rt11 (g L : Nat) (node set : ByteArray) (rank : Int) (T R : List UInt8) (q : Rk) (E own : Int) (w0 w : World) (hT : T.length = 1024) (hR : R.length = 1024)
    (hk : (!coversL R T || q.has own) = false) (hg : w.heap[g]? = some (.cells (stRow node set rank 2 zeros (tombRow T R q.r0 q.r1 (q.n : Int) E)) 64)) (hL : w.heap[L]? = some (.cells (tombRow T R q.r0 q.r1 (q.n : Int) E) 61)) (hL0 : w0.heap.size ≤ L) (hne : L ≠ g) (hb : But g w0 w)
    {u1 u2 u3 u4 u5 u6 u8 u9 u10 u11 u12 u13 u14 u15 u16 u17 u18 u19 u20 u21 u22 u23 u24 u25 u26 u27 u28 u29 u30 u31 u32 u33 u34 u35 u36 u37 u38 u39 u40 u41 u42 u43 u44 u45 u46 u47 u48 u49 u50 u51 u52 u53 u54 u55 u56 u57 u58 u59 u60 u61 u62 u63 u64 u65 u66 u67 u68 u69 u70 u71 u72 u73 u74 u75 u76 u77 u78 u79 u80 u81 u82 u83 u84 u85 u86 u87 u88 u89 u90 u91 u92 u93 u94 u95 : Value} (Q : Exit → Act → World → Prop) (hQ : Q = bodyPost Try.prog Try.f14 fun e w' => RtEnd g w0 node set rank T R q E own e w') :
    Code.wp Try.prog (tl 11 (Try.f14.body.getD .skip)) Q ⟨#[.pointer (some ⟨g, 0, none⟩), u1, u2, u3, u4, u5, u6, .pointer (some ⟨L, 0, none⟩), u8, u9, u10, u11, u12, u13, u14, u15, u16, u17, u18, u19, u20, u21, u22, u23, u24, u25, u26, u27, u28, u29, u30, u31, u32, u33, u34, u35, u36, u37, u38, u39, u40, u41, u42, u43, u44, u45, u46, u47, u48, u49, u50, u51, u52, u53, u54, u55, u56, u57, u58, u59, u60, u61, u62, u63, u64, u65, u66, u67, u68, u69, u70, u71, u72, u73, u74, u75, u76, u77, u78, u79, u80, u81, u82, u83, u84, u85, u86, u87, u88, u89, u90, u91, u92, u93, u94, u95], []⟩ w := by
  delta Try.f14
  dsimp only [tl, Option.getD_some]
  obtain ⟨z, hz⟩ : ∃ z, z = zeros := ⟨_, rfl⟩
  obtain ⟨tb, htb⟩ : ∃ t, t = (tombRow T R q.r0 q.r1 (q.n : Int) E) := ⟨_, rfl⟩
  obtain ⟨t0, ht0⟩ : ∃ t, t = tombRow zeros zeros 0 0 0 0 := ⟨_, rfl⟩
  have HX : Hid (z = zeros ∧ tb = (tombRow T R q.r0 q.r1 (q.n : Int) E) ∧ t0 = tombRow zeros zeros 0 0 0 0) := ⟨hz, htb, ht0⟩
  have lz : z.length = 1024 := by rw [hz, zeros_len]
  have sz : tb.size = 2052 := by rw [htb]; exact tombRow_size _ _ _ _ _ _ hT hR
  have s0 : t0.size = 2052 := by rw [ht0]; exact tombRow_size _ _ _ _ _ _ zeros_len zeros_len
  have o0 : t0.all (·.oneCell') = true := by rw [ht0]; exact tomb_one _ _ _ _ _ _
  have hzv : ∀ W, (zeroValue 61).run Try.prog W = .ok (.agg t0) W := fun W => by rw [ht0]; exact run_zero zero61 W
  rw [← hz, ← htb] at hg
  rw [← htb] at hL
  clear hz htb ht0
  have hf : w.frozen? ⟨g, 3, none⟩ = false := frozen_of_row _ _ _ _ _ hg
  have hc : w.cell? ⟨g, 3, none⟩ = some (.int .i64 2) := st_cell3 g node set rank 2 z tb w hg
  have HG1 : Hid ((w.setCell ⟨g, 3, none⟩ (.int .i64 0)).heap[g]? = some (.cells (stRow node set rank 0 z tb) 64)) := by
    show _ = _
    rw [heap_setCell_same _ _ _ _ _ _ hg, st_holds]
  have HO : Hid (over (stRow node set rank 0 z tb) 1028 t0 = stRow node set rank 0 z t0) := by
    show _ = _
    have e := over_mid (hd4 node set rank 0 ++ bv z) tb #[] t0 (by rw [sz, s0])
    rw [szT _ _ _ _ _ lz] at e
    rw [st_tomb node set rank 0 z tb, st_tomb node set rank 0 z t0, e]
  have HZ : Hid (1028 + t0.size ≤ (stRow node set rank 0 z tb).size) := by
    show _ ≤ _
    rw [stRow_size _ _ _ _ _ _ lz sz, s0]; omega
  have HI : Hid ((Try.prog.info? 61).map (·.size) = some t0.size) := by show _ = _; rw [Try.info61, s0]
  have HL : Hid _ := hL
  have HB : Hid _ := hb
  have HQ : Hid _ := hQ
  have HO0 : Hid _ := o0
  clear hg hL hb o0 sz s0 lz
  subst hQ
  go_wp2_with (first
    | (refine wpList_store_seg rfl 61 (.tmp 95) (.tmp 93) rfl g 1028 t0 rfl rfl 64 (stRow node set rank 0 z tb) ?_ ?_ ?_ ?_ ?_; (exact HG1.out); (exact HI.out); (exact HZ.out); (exact HO0.out); simp only [Act.put, List.setIfInBounds_toArray, List.set_cons_succ, List.set_cons_zero]))
  go_ret2
  obtain ⟨hz, htb, ht0⟩ := HX.out
  refine ⟨HB.out.trans ((But.setCell _ _ _ _).trans (But.setRow _ _ _)), Or.inr ⟨hk, L, hL0, rfl, ?_, ?_⟩⟩
  · rw [← htb, setRow_other _ _ _ _ hne, heap_setCell_other _ _ _ _ hne]
    exact HL.out
  · refine (setRow_heap _ _ _ _ _ _ HG1.out).trans ?_
    rw [HO.out, ← hz, ht0, hz]
end Go.Proofs.Qxb6612204a
