import Derived.Test.Qxb6612204aTail15
namespace Go.Proofs.Qxb6612204a
open Go.RowKit Plain
set_option linter.unusedVariables false

set_option maxRecDepth 10000 in
set_option maxHeartbeats 4000000 in
theorem tail9 (node set : ByteArray) (a b : List UInt8) (Z s1 s2 : Nat) (rank : Int) (w w0 : World) (hs : node.size ≤ maxLen) (ha : a.length = 1024) (hb : b.length = 1024) (hT : Two w a b Z s1 s2 node set rank 0 0 zeros zeros w0)
    {u1 u2 u3 u4 u5 u8 u10 u13 u14 u15 u16 u17 u18 u19 u20 u21 u22 u23 u24 u25 u26 u27 u28 u29 u30 u31 u32 u33 u34 u35 u36 u37 u38 u39 u40 u41 u42 u43 u44 u45 u46 u47 u48 u49 u50 u51 u52 u53 u54 u55 u56 u57 u58 u59 u60 u61 u62 u63 u64 u65 u66 u67 u68 u69 u70 u71 u72 u73 u74 u75 u76 u77 u78 u79 u80 u81 u82 u83 u84 u85 u86 u87 u88 u89 u90 u91 u92 u93 u94 u95 u96 u97 u98 u99 u100 u101 u102 u103 u104 u105 u106 u107 u108 u109 u110 u111 u112 u113 u114 u115 u116 u117 u118 u119 u120 u121 u122 u123 u124 u125 u126 u127 u128 u129 u130 u131 u132 u133 : Value} (Q : Exit → Act → World → Prop) (hQ : Q = bodyPost Try.prog Try.f7 fun e w' => e = .returned (.bool true) ∧ Below w.heap.size w w') :
    Code.wp Try.prog (tl 7 (Try.f7.body.getD .skip)) Q ⟨#[.string node, u1, u2, u3, u4, u5, .pointer (some ⟨w.heap.size, 0, none⟩), .pointer (some ⟨w.heap.size + 1, 0, none⟩), u8, .pointer (some ⟨Z, 0, none⟩), u10, .pointer (some ⟨s1, 0, none⟩), .pointer (some ⟨s2, 0, none⟩), u13, u14, u15, u16, u17, u18, u19, u20, u21, u22, u23, u24, u25, u26, u27, u28, u29, u30, u31, u32, u33, u34, u35, u36, u37, u38, u39, u40, u41, u42, u43, u44, u45, u46, u47, u48, u49, u50, u51, u52, u53, u54, u55, u56, u57, u58, u59, u60, u61, u62, u63, u64, u65, u66, u67, u68, u69, u70, u71, u72, u73, u74, u75, u76, u77, u78, u79, u80, u81, u82, u83, u84, u85, u86, u87, u88, u89, u90, u91, u92, u93, u94, u95, u96, u97, u98, u99, u100, u101, u102, u103, u104, u105, u106, u107, u108, u109, u110, u111, u112, u113, u114, u115, u116, u117, u118, u119, u120, u121, u122, u123, u124, u125, u126, u127, u128, u129, u130, u131, u132, u133], []⟩ w0 := by
  delta Try.f7
  dsimp only [tl, Option.getD_some]
  have HT0 : Hid _ := hT
  have HNS : Hid (node.size ≤ maxLen) := hs
  have hp1 := eql_nil ⟨s1, 4, none⟩
  have hp2 := eql_nil ⟨s2, 4, none⟩
  have hp3 : (binOp .eql 47 (.pointer (some ⟨s1, 4, none⟩)) (.pointer (some ⟨s2, 4, none⟩))).run Try.prog w0 = .ok (.bool false) w0 :=
    eql_other w0 (fun h => by have h1 : s1 = s2 := congrArg Addr.block h; have h2 := hT.lt2; omega) hT.g1 hT.g2
  clear hs hT
  subst hQ
  go_wp2_with fail
  refine (record_any s1 w0).mono ?_
  rintro e w1 ⟨rfl, rfl⟩
  go_wp2_with fail
  refine (record_any s2 w1).mono ?_
  rintro e w2 ⟨rfl, rfl⟩
  go_wp2
  obtain ⟨zz, hzz⟩ : ∃ z, z = zeros := ⟨_, rfl⟩
  have lz : zz.length = 1024 := by rw [hzz, zeros_len]
  have hn := later_some w2
  have sZ : Hid (∀ e : Later w2, Seg e.x Z 0 (bv zz)) := fun e => by rw [hzz]; exact seg_row (HT0.out.later e.h).env.z
  have q1 : Hid (∀ e : Later w2, Seg e.x s1 4 (bv zz)) := fun e => by rw [hzz]; exact stRow_seg (HT0.out.later e.h).g1
  have q2 : Hid (∀ e : Later w2, Seg e.x s2 4 (bv zz)) := fun e => by rw [hzz]; exact stRow_seg (HT0.out.later e.h).g2
  have z1 : Hid (∀ e : Later w2, s1 < e.x.heap.size) := fun e => by have := (HT0.out.later e.h).size; have := HT0.out.lt2; omega
  have z2 : Hid (∀ e : Later w2, s2 < e.x.heap.size) := fun e => (HT0.out.later e.h).size
  clear hzz
  have heg := Try.eqg22
  have heq : ∀ w, (Op.equalIn 10000 22 (.agg (bv zz)) (.agg (bv zz))).run Try.prog w = .ok true w := fun w => by
    rw [equalIn_bv (P := Try.prog) w 9998 22 5 1024 Try.underlying22 Try.underlying5 Try.info5 _ _ lz lz]; simp
  refine wp_region_later Try.follows (by kernel_rfl) ?_
  repeat (first
    | (go_big_quiet_want; refine later_load 22 (.tmp 9) rfl _ _ rfl _ _ sZ.out Try.underlying22 rfl (by rw [Try.info22, bv_size, lz]) ?_; simp only [Act.put, List.setIfInBounds_toArray, List.set_cons_succ, List.set_cons_zero]; go_big_quiet_on)
    | go_big_quiet_step ((first | (go_at_call 27; first | exact later_call _ (sketchReg_any s1 4 zz _ lz (q1.out _) (z1.out _)) | exact later_call _ (sketchReg_any s2 4 zz _ lz (q2.out _) (z2.out _))))))
  refine wpQuiet_nil ?_
  rintro ⟨w3, hb3⟩
  dsimp only
  have HT3 : Hid _ := HT0.out.later hb3
  clear hb3 sZ q1 q2 z1 z2 hn heq heg HT0 hp1 hp2 hp3
  rename_i K1 aK1 K0 aK0
  have HK : Hid (∀ a w, _ → K1 a w) := aK1
  clear aK1
  go_wp2_with fail
  exact HK.out _ _ (tail15 node set a b Z s1 s2 rank w w3 HNS.out ha hb HT3.out _ rfl)
end Go.Proofs.Qxb6612204a
