import Derived.Test.Qxb6612204aLowE
namespace Go.Proofs.Qxb6612204a
open Go.RowKit Plain
set_option linter.unusedVariables false
set_option linter.unusedSimpArgs false

set_option maxRecDepth 10000 in
set_option maxHeartbeats 1000000 in
theorem low3_0 (r b p : Nat) (f0 f1 own : Int) (w0 w : World) (hL : Lw w0 r b 0 0 0 w) (hp : w.heap[p]? = some (.cells #[.int .u64 f0, .int .u64 f1] 24)) (hpb : p ≠ b) 
    {u0 u4 u5 u7 u10 u11 u12 u13 u14 u15 u16 u17 u18 u19 u20 u21 u22 u23 u24 u25 u26 u27 u28 u29 u30 u31 u32 u33 u34 u35 u36 u37 u38 u39 u40 u41 u42 u43 u44 u45 u46 u47 u48 u49 u50 u51 u52 u53 u54 u55 u56 u57 u58 u59 u60 u61 u62 u63 u64 u65 u66 u67 u68 u69 u70 u71 u72 u73 u74 u75 u76 u77 u78 u79 u80 u81 u82 u83 u84 u85 u86 u87 u88 u89 u90 u91 u92 u93 u94 u95 u96 u97 : Value} (Q : Exit → Act → World → Prop) (hQ : LwQ w0 ((Rk.zero.merge ⟨f0, f1, 0⟩).add own) Q) :
    Code.wp Try.prog (tl 3 (Try.f22.body.getD .skip)) Q ⟨#[u0, .int .i64 0, .int .u64 own, .pointer (some ⟨p, 0, none⟩), u4, u5, .pointer (some ⟨r, 0, none⟩), u7, .pointer (some ⟨b, 0, none⟩), .int .i64 0, u10, u11, u12, u13, u14, u15, u16, u17, u18, u19, u20, u21, u22, u23, u24, u25, u26, u27, u28, u29, u30, u31, u32, u33, u34, u35, u36, u37, u38, u39, u40, u41, u42, u43, u44, u45, u46, u47, u48, u49, u50, u51, u52, u53, u54, u55, u56, u57, u58, u59, u60, u61, u62, u63, u64, u65, u66, u67, u68, u69, u70, u71, u72, u73, u74, u75, u76, u77, u78, u79, u80, u81, u82, u83, u84, u85, u86, u87, u88, u89, u90, u91, u92, u93, u94, u95, u96, u97], []⟩ w := by
  delta Try.f22
  dsimp only [tl, Option.getD_some]
  have HL : Hid _ := hL
  have HP : Hid _ := hp
  have HQ : Hid _ := hQ
  clear hL hp hQ
  apply wp_seq_k; intro K1 aK1
  have HK : Hid (∀ a w, _ → K1 a w) := aK1
  clear aK1
  go_wp2_with fail
  refine wp_loop_rounds 1 ?_
  rw [rounds_succ]
  go_wp2_with fail
  exact HK.out _ _ (low4_0 r b 0 own w0 _ HL.out Q HQ.out)


set_option maxRecDepth 10000 in
set_option maxHeartbeats 1000000 in
theorem low3_1 (r b p : Nat) (f0 f1 own : Int) (w0 w : World) (hL : Lw w0 r b 0 0 0 w) (hp : w.heap[p]? = some (.cells #[.int .u64 f0, .int .u64 f1] 24)) (hpb : p ≠ b) 
    {u0 u4 u5 u7 u10 u11 u12 u13 u14 u15 u16 u17 u18 u19 u20 u21 u22 u23 u24 u25 u26 u27 u28 u29 u30 u31 u32 u33 u34 u35 u36 u37 u38 u39 u40 u41 u42 u43 u44 u45 u46 u47 u48 u49 u50 u51 u52 u53 u54 u55 u56 u57 u58 u59 u60 u61 u62 u63 u64 u65 u66 u67 u68 u69 u70 u71 u72 u73 u74 u75 u76 u77 u78 u79 u80 u81 u82 u83 u84 u85 u86 u87 u88 u89 u90 u91 u92 u93 u94 u95 u96 u97 : Value} (Q : Exit → Act → World → Prop) (hQ : LwQ w0 ((Rk.zero.merge ⟨f0, f1, 1⟩).add own) Q) :
    Code.wp Try.prog (tl 3 (Try.f22.body.getD .skip)) Q ⟨#[u0, .int .i64 1, .int .u64 own, .pointer (some ⟨p, 0, none⟩), u4, u5, .pointer (some ⟨r, 0, none⟩), u7, .pointer (some ⟨b, 0, none⟩), .int .i64 0, u10, u11, u12, u13, u14, u15, u16, u17, u18, u19, u20, u21, u22, u23, u24, u25, u26, u27, u28, u29, u30, u31, u32, u33, u34, u35, u36, u37, u38, u39, u40, u41, u42, u43, u44, u45, u46, u47, u48, u49, u50, u51, u52, u53, u54, u55, u56, u57, u58, u59, u60, u61, u62, u63, u64, u65, u66, u67, u68, u69, u70, u71, u72, u73, u74, u75, u76, u77, u78, u79, u80, u81, u82, u83, u84, u85, u86, u87, u88, u89, u90, u91, u92, u93, u94, u95, u96, u97], []⟩ w := by
  delta Try.f22
  dsimp only [tl, Option.getD_some]
  have HL : Hid _ := hL
  have HP : Hid _ := hp
  have HQ : Hid _ := hQ
  clear hL hp hQ
  apply wp_seq_k; intro K1 aK1
  have HK : Hid (∀ a w, _ → K1 a w) := aK1
  clear aK1
  go_wp2_with fail
  have HHAS : Hid (Rk.has ⟨0, 0, 0⟩ f0 = false) := by show _ = _; simp [Rk.has]
  refine wp_loop_rounds 2 ?_
  have hn := later_some w
  have HC : Hid (∀ e : Later w, Calls Try.prog 46 #[.agg #[.int .u64 0, .int .u64 0, .int .u64 0], .int .i64 0, .int .u64 f0] e.x fun e' w' => e' = .returned (.bool false) ∧ Below e.x.heap.size e.x w') := fun e => by
    have h := in3_any 0 0 0 0 (by omega) f0 e.x
    rw [show Rk.has ⟨0, 0, 0⟩ f0 = false from HHAS.out] at h
    exact h
  have c0 : ∀ e : Later w, e.x.cell? ⟨b, 0, none⟩ = some (.int .u64 0) := fun e => by rw [cell_of_row _ _ _ _ _ _ (HL.out.later e.h).hb]; rfl
  have c1 : ∀ e : Later w, e.x.cell? ⟨b, 1, none⟩ = some (.int .u64 0) := fun e => by rw [cell_of_row _ _ _ _ _ _ (HL.out.later e.h).hb]; rfl
  have c2 : ∀ e : Later w, e.x.cell? ⟨b, 2, none⟩ = some (.int .u64 0) := fun e => by rw [cell_of_row _ _ _ _ _ _ (HL.out.later e.h).hb]; rfl
  have p0 : ∀ e : Later w, e.x.cell? ⟨p, 0, none⟩ = some (.int .u64 f0) := fun e => by rw [cell_of_row _ _ _ _ _ _ ((e.h.block _ (Array.getElem?_eq_some_iff.1 HP.out).1).trans HP.out)]; rfl
  rw [rounds_succ]
  go_wp2_with fail
  refine wp_region_later Try.follows (by kernel_rfl) ?_
  repeat (go_big_quiet_step ((go_at_call 46; exact later_call _ (HC.out _))))
  refine wpQuiet_nil ?_
  rintro ⟨w1, hb1⟩
  dsimp only
  have hL1 := HL.out.later hb1
  have hp1 : w1.heap[p]? = some (.cells #[.int .u64 f0, .int .u64 f1] 24) := (hb1.block _ (Array.getElem?_eq_some_iff.1 HP.out).1).trans HP.out
  clear HL HP HC hn c0 c1 c2 p0 hb1
  have HL : Hid _ := hL1
  have HP : Hid _ := hp1
  have q0 : w1.cell? ⟨p, 0, none⟩ = some (.int .u64 f0) := by rw [cell_of_row _ _ _ _ _ _ hp1]; rfl
  have c0 : w1.cell? ⟨b, 0, none⟩ = some (.int .u64 0) := by rw [cell_of_row _ _ _ _ _ _ hL1.hb]; rfl
  have c1 : w1.cell? ⟨b, 1, none⟩ = some (.int .u64 0) := by rw [cell_of_row _ _ _ _ _ _ hL1.hb]; rfl
  have c2 : w1.cell? ⟨b, 2, none⟩ = some (.int .u64 0) := by rw [cell_of_row _ _ _ _ _ _ hL1.hb]; rfl
  have k0 : w1.frozen? ⟨b, 0, none⟩ = false := frozen_of_row _ _ _ _ _ hL1.hb
  have k1 : w1.frozen? ⟨b, 1, none⟩ = false := frozen_of_row _ _ _ _ _ hL1.hb
  have k2 : w1.frozen? ⟨b, 2, none⟩ = false := frozen_of_row _ _ _ _ _ hL1.hb
  clear hL1 hp1 HHAS
  go_wp2_with fail
  have hL2 := HL.out.set0 f0
  have hp2 : (w1.setCell ⟨b, 0, none⟩ (.int .u64 f0)).heap[p]? = some (.cells #[.int .u64 f0, .int .u64 f1] 24) := (heap_setCell_other _ _ _ _ hpb).trans HP.out
  generalize w1.setCell ⟨b, 0, none⟩ (.int .u64 f0) = w2 at hL2 hp2 ⊢
  clear HL HP c0 c1 c2 q0 k0 k1 k2
  have HL : Hid _ := hL2
  have HP : Hid _ := hp2
  clear hL2 hp2
  rw [rounds_succ]
  go_wp2_with fail
  have hQ := HQ.out
  rw [show (Rk.zero.merge ⟨f0, f1, 1⟩).add own = (srt 1 f0 0).add own from by simp [Rk.merge, Rk.zero, Rk.add, Rk.has, srt]] at hQ
  exact HK.out _ _ (low4_1 r b f0 0 0 own w0 _ HL.out Q hQ)


set_option maxRecDepth 10000 in
set_option maxHeartbeats 1000000 in
theorem low3_2a (r b p : Nat) (f0 f1 own : Int) (w0 w : World) (hL : Lw w0 r b 0 0 0 w) (hp : w.heap[p]? = some (.cells #[.int .u64 f0, .int .u64 f1] 24)) (hpb : p ≠ b) (hf : Hid (f0 = f1))
    {u0 u4 u5 u7 u10 u11 u12 u13 u14 u15 u16 u17 u18 u19 u20 u21 u22 u23 u24 u25 u26 u27 u28 u29 u30 u31 u32 u33 u34 u35 u36 u37 u38 u39 u40 u41 u42 u43 u44 u45 u46 u47 u48 u49 u50 u51 u52 u53 u54 u55 u56 u57 u58 u59 u60 u61 u62 u63 u64 u65 u66 u67 u68 u69 u70 u71 u72 u73 u74 u75 u76 u77 u78 u79 u80 u81 u82 u83 u84 u85 u86 u87 u88 u89 u90 u91 u92 u93 u94 u95 u96 u97 : Value} (Q : Exit → Act → World → Prop) (hQ : LwQ w0 ((Rk.zero.merge ⟨f0, f1, 2⟩).add own) Q) :
    Code.wp Try.prog (tl 3 (Try.f22.body.getD .skip)) Q ⟨#[u0, .int .i64 2, .int .u64 own, .pointer (some ⟨p, 0, none⟩), u4, u5, .pointer (some ⟨r, 0, none⟩), u7, .pointer (some ⟨b, 0, none⟩), .int .i64 0, u10, u11, u12, u13, u14, u15, u16, u17, u18, u19, u20, u21, u22, u23, u24, u25, u26, u27, u28, u29, u30, u31, u32, u33, u34, u35, u36, u37, u38, u39, u40, u41, u42, u43, u44, u45, u46, u47, u48, u49, u50, u51, u52, u53, u54, u55, u56, u57, u58, u59, u60, u61, u62, u63, u64, u65, u66, u67, u68, u69, u70, u71, u72, u73, u74, u75, u76, u77, u78, u79, u80, u81, u82, u83, u84, u85, u86, u87, u88, u89, u90, u91, u92, u93, u94, u95, u96, u97], []⟩ w := by
  delta Try.f22
  dsimp only [tl, Option.getD_some]
  have HL : Hid _ := hL
  have HP : Hid _ := hp
  have HQ : Hid _ := hQ
  clear hL hp hQ
  apply wp_seq_k; intro K1 aK1
  have HK : Hid (∀ a w, _ → K1 a w) := aK1
  clear aK1
  go_wp2_with fail
  have HHAS : Hid (Rk.has ⟨0, 0, 0⟩ f0 = false) := by show _ = _; simp [Rk.has]
  refine wp_loop_rounds 3 ?_
  have hn := later_some w
  have HC : Hid (∀ e : Later w, Calls Try.prog 46 #[.agg #[.int .u64 0, .int .u64 0, .int .u64 0], .int .i64 0, .int .u64 f0] e.x fun e' w' => e' = .returned (.bool false) ∧ Below e.x.heap.size e.x w') := fun e => by
    have h := in3_any 0 0 0 0 (by omega) f0 e.x
    rw [show Rk.has ⟨0, 0, 0⟩ f0 = false from HHAS.out] at h
    exact h
  have c0 : ∀ e : Later w, e.x.cell? ⟨b, 0, none⟩ = some (.int .u64 0) := fun e => by rw [cell_of_row _ _ _ _ _ _ (HL.out.later e.h).hb]; rfl
  have c1 : ∀ e : Later w, e.x.cell? ⟨b, 1, none⟩ = some (.int .u64 0) := fun e => by rw [cell_of_row _ _ _ _ _ _ (HL.out.later e.h).hb]; rfl
  have c2 : ∀ e : Later w, e.x.cell? ⟨b, 2, none⟩ = some (.int .u64 0) := fun e => by rw [cell_of_row _ _ _ _ _ _ (HL.out.later e.h).hb]; rfl
  have p0 : ∀ e : Later w, e.x.cell? ⟨p, 0, none⟩ = some (.int .u64 f0) := fun e => by rw [cell_of_row _ _ _ _ _ _ ((e.h.block _ (Array.getElem?_eq_some_iff.1 HP.out).1).trans HP.out)]; rfl
  rw [rounds_succ]
  go_wp2_with fail
  refine wp_region_later Try.follows (by kernel_rfl) ?_
  repeat (go_big_quiet_step ((go_at_call 46; exact later_call _ (HC.out _))))
  refine wpQuiet_nil ?_
  rintro ⟨w1, hb1⟩
  dsimp only
  have hL1 := HL.out.later hb1
  have hp1 : w1.heap[p]? = some (.cells #[.int .u64 f0, .int .u64 f1] 24) := (hb1.block _ (Array.getElem?_eq_some_iff.1 HP.out).1).trans HP.out
  clear HL HP HC hn c0 c1 c2 p0 hb1
  have HL : Hid _ := hL1
  have HP : Hid _ := hp1
  have q0 : w1.cell? ⟨p, 0, none⟩ = some (.int .u64 f0) := by rw [cell_of_row _ _ _ _ _ _ hp1]; rfl
  have c0 : w1.cell? ⟨b, 0, none⟩ = some (.int .u64 0) := by rw [cell_of_row _ _ _ _ _ _ hL1.hb]; rfl
  have c1 : w1.cell? ⟨b, 1, none⟩ = some (.int .u64 0) := by rw [cell_of_row _ _ _ _ _ _ hL1.hb]; rfl
  have c2 : w1.cell? ⟨b, 2, none⟩ = some (.int .u64 0) := by rw [cell_of_row _ _ _ _ _ _ hL1.hb]; rfl
  have k0 : w1.frozen? ⟨b, 0, none⟩ = false := frozen_of_row _ _ _ _ _ hL1.hb
  have k1 : w1.frozen? ⟨b, 1, none⟩ = false := frozen_of_row _ _ _ _ _ hL1.hb
  have k2 : w1.frozen? ⟨b, 2, none⟩ = false := frozen_of_row _ _ _ _ _ hL1.hb
  clear hL1 hp1 HHAS
  go_wp2_with fail
  have hL2 := HL.out.set0 f0
  have hp2 : (w1.setCell ⟨b, 0, none⟩ (.int .u64 f0)).heap[p]? = some (.cells #[.int .u64 f0, .int .u64 f1] 24) := (heap_setCell_other _ _ _ _ hpb).trans HP.out
  generalize w1.setCell ⟨b, 0, none⟩ (.int .u64 f0) = w2 at hL2 hp2 ⊢
  clear HL HP c0 c1 c2 q0 k0 k1 k2
  have HL : Hid _ := hL2
  have HP : Hid _ := hp2
  clear hL2 hp2
  have HHAS : Hid (Rk.has ⟨f0, 0, 1⟩ f1 = true) := by show _ = _; simp [Rk.has, hf.out]
  have hn := later_some w2
  have HC : Hid (∀ e : Later w2, Calls Try.prog 46 #[.agg #[.int .u64 f0, .int .u64 0, .int .u64 0], .int .i64 1, .int .u64 f1] e.x fun e' w' => e' = .returned (.bool true) ∧ Below e.x.heap.size e.x w') := fun e => by
    have h := in3_any f0 0 0 1 (by omega) f1 e.x
    rw [show Rk.has ⟨f0, 0, 1⟩ f1 = true from HHAS.out] at h
    exact h
  have c0 : ∀ e : Later w2, e.x.cell? ⟨b, 0, none⟩ = some (.int .u64 f0) := fun e => by rw [cell_of_row _ _ _ _ _ _ (HL.out.later e.h).hb]; rfl
  have c1 : ∀ e : Later w2, e.x.cell? ⟨b, 1, none⟩ = some (.int .u64 0) := fun e => by rw [cell_of_row _ _ _ _ _ _ (HL.out.later e.h).hb]; rfl
  have c2 : ∀ e : Later w2, e.x.cell? ⟨b, 2, none⟩ = some (.int .u64 0) := fun e => by rw [cell_of_row _ _ _ _ _ _ (HL.out.later e.h).hb]; rfl
  have p0 : ∀ e : Later w2, e.x.cell? ⟨p, 1, none⟩ = some (.int .u64 f1) := fun e => by rw [cell_of_row _ _ _ _ _ _ ((e.h.block _ (Array.getElem?_eq_some_iff.1 HP.out).1).trans HP.out)]; rfl
  rw [rounds_succ]
  go_wp2_with fail
  refine wp_region_later Try.follows (by kernel_rfl) ?_
  repeat (go_big_quiet_step ((go_at_call 46; exact later_call _ (HC.out _))))
  refine wpQuiet_nil ?_
  rintro ⟨w3, hb1⟩
  dsimp only
  have hL1 := HL.out.later hb1
  have hp1 : w3.heap[p]? = some (.cells #[.int .u64 f0, .int .u64 f1] 24) := (hb1.block _ (Array.getElem?_eq_some_iff.1 HP.out).1).trans HP.out
  clear HL HP HC hn c0 c1 c2 p0 hb1
  have HL : Hid _ := hL1
  have HP : Hid _ := hp1
  have q0 : w3.cell? ⟨p, 1, none⟩ = some (.int .u64 f1) := by rw [cell_of_row _ _ _ _ _ _ hp1]; rfl
  have c0 : w3.cell? ⟨b, 0, none⟩ = some (.int .u64 f0) := by rw [cell_of_row _ _ _ _ _ _ hL1.hb]; rfl
  have c1 : w3.cell? ⟨b, 1, none⟩ = some (.int .u64 0) := by rw [cell_of_row _ _ _ _ _ _ hL1.hb]; rfl
  have c2 : w3.cell? ⟨b, 2, none⟩ = some (.int .u64 0) := by rw [cell_of_row _ _ _ _ _ _ hL1.hb]; rfl
  have k0 : w3.frozen? ⟨b, 0, none⟩ = false := frozen_of_row _ _ _ _ _ hL1.hb
  have k1 : w3.frozen? ⟨b, 1, none⟩ = false := frozen_of_row _ _ _ _ _ hL1.hb
  have k2 : w3.frozen? ⟨b, 2, none⟩ = false := frozen_of_row _ _ _ _ _ hL1.hb
  clear hL1 hp1 HHAS
  go_wp2_with fail
  rw [rounds_succ]
  go_wp2_with fail
  have hQ := HQ.out
  rw [show (Rk.zero.merge ⟨f0, f1, 2⟩).add own = (srt 1 f0 0).add own from by simp [Rk.merge, Rk.zero, Rk.add, Rk.has, srt, hf.out]] at hQ
  exact HK.out _ _ (low4_1 r b f0 0 0 own w0 _ HL.out Q hQ)


set_option maxRecDepth 10000 in
set_option maxHeartbeats 1000000 in
theorem low3_2b (r b p : Nat) (f0 f1 own : Int) (w0 w : World) (hL : Lw w0 r b 0 0 0 w) (hp : w.heap[p]? = some (.cells #[.int .u64 f0, .int .u64 f1] 24)) (hpb : p ≠ b) (hf : f0 ≠ f1)
    {u0 u4 u5 u7 u10 u11 u12 u13 u14 u15 u16 u17 u18 u19 u20 u21 u22 u23 u24 u25 u26 u27 u28 u29 u30 u31 u32 u33 u34 u35 u36 u37 u38 u39 u40 u41 u42 u43 u44 u45 u46 u47 u48 u49 u50 u51 u52 u53 u54 u55 u56 u57 u58 u59 u60 u61 u62 u63 u64 u65 u66 u67 u68 u69 u70 u71 u72 u73 u74 u75 u76 u77 u78 u79 u80 u81 u82 u83 u84 u85 u86 u87 u88 u89 u90 u91 u92 u93 u94 u95 u96 u97 : Value} (Q : Exit → Act → World → Prop) (hQ : LwQ w0 ((Rk.zero.merge ⟨f0, f1, 2⟩).add own) Q) :
    Code.wp Try.prog (tl 3 (Try.f22.body.getD .skip)) Q ⟨#[u0, .int .i64 2, .int .u64 own, .pointer (some ⟨p, 0, none⟩), u4, u5, .pointer (some ⟨r, 0, none⟩), u7, .pointer (some ⟨b, 0, none⟩), .int .i64 0, u10, u11, u12, u13, u14, u15, u16, u17, u18, u19, u20, u21, u22, u23, u24, u25, u26, u27, u28, u29, u30, u31, u32, u33, u34, u35, u36, u37, u38, u39, u40, u41, u42, u43, u44, u45, u46, u47, u48, u49, u50, u51, u52, u53, u54, u55, u56, u57, u58, u59, u60, u61, u62, u63, u64, u65, u66, u67, u68, u69, u70, u71, u72, u73, u74, u75, u76, u77, u78, u79, u80, u81, u82, u83, u84, u85, u86, u87, u88, u89, u90, u91, u92, u93, u94, u95, u96, u97], []⟩ w := by
  delta Try.f22
  dsimp only [tl, Option.getD_some]
  have HL : Hid _ := hL
  have HP : Hid _ := hp
  have HQ : Hid _ := hQ
  clear hL hp hQ
  apply wp_seq_k; intro K1 aK1
  have HK : Hid (∀ a w, _ → K1 a w) := aK1
  clear aK1
  go_wp2_with fail
  have HHAS : Hid (Rk.has ⟨0, 0, 0⟩ f0 = false) := by show _ = _; simp [Rk.has]
  refine wp_loop_rounds 3 ?_
  have hn := later_some w
  have HC : Hid (∀ e : Later w, Calls Try.prog 46 #[.agg #[.int .u64 0, .int .u64 0, .int .u64 0], .int .i64 0, .int .u64 f0] e.x fun e' w' => e' = .returned (.bool false) ∧ Below e.x.heap.size e.x w') := fun e => by
    have h := in3_any 0 0 0 0 (by omega) f0 e.x
    rw [show Rk.has ⟨0, 0, 0⟩ f0 = false from HHAS.out] at h
    exact h
  have c0 : ∀ e : Later w, e.x.cell? ⟨b, 0, none⟩ = some (.int .u64 0) := fun e => by rw [cell_of_row _ _ _ _ _ _ (HL.out.later e.h).hb]; rfl
  have c1 : ∀ e : Later w, e.x.cell? ⟨b, 1, none⟩ = some (.int .u64 0) := fun e => by rw [cell_of_row _ _ _ _ _ _ (HL.out.later e.h).hb]; rfl
  have c2 : ∀ e : Later w, e.x.cell? ⟨b, 2, none⟩ = some (.int .u64 0) := fun e => by rw [cell_of_row _ _ _ _ _ _ (HL.out.later e.h).hb]; rfl
  have p0 : ∀ e : Later w, e.x.cell? ⟨p, 0, none⟩ = some (.int .u64 f0) := fun e => by rw [cell_of_row _ _ _ _ _ _ ((e.h.block _ (Array.getElem?_eq_some_iff.1 HP.out).1).trans HP.out)]; rfl
  rw [rounds_succ]
  go_wp2_with fail
  refine wp_region_later Try.follows (by kernel_rfl) ?_
  repeat (go_big_quiet_step ((go_at_call 46; exact later_call _ (HC.out _))))
  refine wpQuiet_nil ?_
  rintro ⟨w1, hb1⟩
  dsimp only
  have hL1 := HL.out.later hb1
  have hp1 : w1.heap[p]? = some (.cells #[.int .u64 f0, .int .u64 f1] 24) := (hb1.block _ (Array.getElem?_eq_some_iff.1 HP.out).1).trans HP.out
  clear HL HP HC hn c0 c1 c2 p0 hb1
  have HL : Hid _ := hL1
  have HP : Hid _ := hp1
  have q0 : w1.cell? ⟨p, 0, none⟩ = some (.int .u64 f0) := by rw [cell_of_row _ _ _ _ _ _ hp1]; rfl
  have c0 : w1.cell? ⟨b, 0, none⟩ = some (.int .u64 0) := by rw [cell_of_row _ _ _ _ _ _ hL1.hb]; rfl
  have c1 : w1.cell? ⟨b, 1, none⟩ = some (.int .u64 0) := by rw [cell_of_row _ _ _ _ _ _ hL1.hb]; rfl
  have c2 : w1.cell? ⟨b, 2, none⟩ = some (.int .u64 0) := by rw [cell_of_row _ _ _ _ _ _ hL1.hb]; rfl
  have k0 : w1.frozen? ⟨b, 0, none⟩ = false := frozen_of_row _ _ _ _ _ hL1.hb
  have k1 : w1.frozen? ⟨b, 1, none⟩ = false := frozen_of_row _ _ _ _ _ hL1.hb
  have k2 : w1.frozen? ⟨b, 2, none⟩ = false := frozen_of_row _ _ _ _ _ hL1.hb
  clear hL1 hp1 HHAS
  go_wp2_with fail
  have hL2 := HL.out.set0 f0
  have hp2 : (w1.setCell ⟨b, 0, none⟩ (.int .u64 f0)).heap[p]? = some (.cells #[.int .u64 f0, .int .u64 f1] 24) := (heap_setCell_other _ _ _ _ hpb).trans HP.out
  generalize w1.setCell ⟨b, 0, none⟩ (.int .u64 f0) = w2 at hL2 hp2 ⊢
  clear HL HP c0 c1 c2 q0 k0 k1 k2
  have HL : Hid _ := hL2
  have HP : Hid _ := hp2
  clear hL2 hp2
  have HHAS : Hid (Rk.has ⟨f0, 0, 1⟩ f1 = false) := by show _ = _; simp [Rk.has, hf]
  have hn := later_some w2
  have HC : Hid (∀ e : Later w2, Calls Try.prog 46 #[.agg #[.int .u64 f0, .int .u64 0, .int .u64 0], .int .i64 1, .int .u64 f1] e.x fun e' w' => e' = .returned (.bool false) ∧ Below e.x.heap.size e.x w') := fun e => by
    have h := in3_any f0 0 0 1 (by omega) f1 e.x
    rw [show Rk.has ⟨f0, 0, 1⟩ f1 = false from HHAS.out] at h
    exact h
  have c0 : ∀ e : Later w2, e.x.cell? ⟨b, 0, none⟩ = some (.int .u64 f0) := fun e => by rw [cell_of_row _ _ _ _ _ _ (HL.out.later e.h).hb]; rfl
  have c1 : ∀ e : Later w2, e.x.cell? ⟨b, 1, none⟩ = some (.int .u64 0) := fun e => by rw [cell_of_row _ _ _ _ _ _ (HL.out.later e.h).hb]; rfl
  have c2 : ∀ e : Later w2, e.x.cell? ⟨b, 2, none⟩ = some (.int .u64 0) := fun e => by rw [cell_of_row _ _ _ _ _ _ (HL.out.later e.h).hb]; rfl
  have p0 : ∀ e : Later w2, e.x.cell? ⟨p, 1, none⟩ = some (.int .u64 f1) := fun e => by rw [cell_of_row _ _ _ _ _ _ ((e.h.block _ (Array.getElem?_eq_some_iff.1 HP.out).1).trans HP.out)]; rfl
  rw [rounds_succ]
  go_wp2_with fail
  refine wp_region_later Try.follows (by kernel_rfl) ?_
  repeat (go_big_quiet_step ((go_at_call 46; exact later_call _ (HC.out _))))
  refine wpQuiet_nil ?_
  rintro ⟨w3, hb1⟩
  dsimp only
  have hL1 := HL.out.later hb1
  have hp1 : w3.heap[p]? = some (.cells #[.int .u64 f0, .int .u64 f1] 24) := (hb1.block _ (Array.getElem?_eq_some_iff.1 HP.out).1).trans HP.out
  clear HL HP HC hn c0 c1 c2 p0 hb1
  have HL : Hid _ := hL1
  have HP : Hid _ := hp1
  have q0 : w3.cell? ⟨p, 1, none⟩ = some (.int .u64 f1) := by rw [cell_of_row _ _ _ _ _ _ hp1]; rfl
  have c0 : w3.cell? ⟨b, 0, none⟩ = some (.int .u64 f0) := by rw [cell_of_row _ _ _ _ _ _ hL1.hb]; rfl
  have c1 : w3.cell? ⟨b, 1, none⟩ = some (.int .u64 0) := by rw [cell_of_row _ _ _ _ _ _ hL1.hb]; rfl
  have c2 : w3.cell? ⟨b, 2, none⟩ = some (.int .u64 0) := by rw [cell_of_row _ _ _ _ _ _ hL1.hb]; rfl
  have k0 : w3.frozen? ⟨b, 0, none⟩ = false := frozen_of_row _ _ _ _ _ hL1.hb
  have k1 : w3.frozen? ⟨b, 1, none⟩ = false := frozen_of_row _ _ _ _ _ hL1.hb
  have k2 : w3.frozen? ⟨b, 2, none⟩ = false := frozen_of_row _ _ _ _ _ hL1.hb
  clear hL1 hp1 HHAS
  go_wp2_with fail
  have hL2 := HL.out.set1 f1
  have hp2 : (w3.setCell ⟨b, 1, none⟩ (.int .u64 f1)).heap[p]? = some (.cells #[.int .u64 f0, .int .u64 f1] 24) := (heap_setCell_other _ _ _ _ hpb).trans HP.out
  generalize w3.setCell ⟨b, 1, none⟩ (.int .u64 f1) = w4 at hL2 hp2 ⊢
  clear HL HP c0 c1 c2 q0 k0 k1 k2
  have HL : Hid _ := hL2
  have HP : Hid _ := hp2
  clear hL2 hp2
  rw [rounds_succ]
  go_wp2_with fail
  have hQ := HQ.out
  rw [show (Rk.zero.merge ⟨f0, f1, 2⟩).add own = (srt 2 f0 f1).add own from by simp [Rk.merge, Rk.zero, Rk.add, Rk.has, srt, hf, Rk.ins]] at hQ
  exact HK.out _ _ (low4_2 r b f0 f1 0 own w0 _ HL.out Q hQ)
end Go.Proofs.Qxb6612204a
