import Derived.Test.Qxb6612243aDoorWalkD
namespace Go.Proofs.Qxb6612243aDoor
open Go.RowKit
set_option linter.unusedVariables false

theorem ext_list (s : ByteArray) (i j : Nat) : (s.extract i j).data.toList = (s.data.toList.drop i).take (j - i) := by
  rw [ByteArray.data_extract, Array.toList_extract, List.extract_eq_take_drop]
theorem ext_size (s : ByteArray) (i j : Nat) (h : j ≤ s.size) : (s.extract i j).size = j - i := by
  rw [ByteArray.size_extract]; omega
theorem span_cons (p : UInt8 → Bool) (c : UInt8) (r : List UInt8) : span p (c :: r) = if p c then span p r + 1 else 0 := rfl
abbrev p0 : UInt8 → Bool := fun c => decide (c.toNat = 48)

set_option maxRecDepth 10000 in
set_option maxHeartbeats 1000000 in
theorem tail9 (neg : Bool) (s d : ByteArray) (j z : Nat) (hs : s.size ≤ 1048576) (hds : d.size ≤ 1048576) (hj : j ≤ 1048576) (hd : ∀ c ∈ d.data.toList, dig c = true) (hz : z = span p0 d.data.toList) (w : World)
    {u1 u2 u3 u4 u9 u10 u11 u12 u13 u14 u15 u16 u17 u18 u19 u20 u21 u22 u23 u24 u25 u26 u27 u28 u29 u30 u31 u32 u33 u34 u35 u36 u37 u38 u39 u40 u41 u42 u43 u44 u45 u46 u47 u48 u49 u50 u51 u52 u53 u54 u55 u56 u57 u58 u59 u60 u61 u62 u63 u64 u65 u66 u67 u68 u69 u70 u71 u72 u73 u74 u75 u76 u77 u78 u79 u80 u81 u82 u83 u84 u85 u86 u87 u88 u89 u90 u91 u92 u93 u94 u95 u96 u97 u98 u99 u100 u101 u102 u103 : Value} (Q : Exit → Act → World → Prop) (hQ : Post w (r10 neg d.size j s.size (d.data.toList.drop (span p0 d.data.toList))) Q) :
    Code.wp Tryd.prog (tl 9 (Tryd.f5.body.getD .skip)) Q ⟨#[.string s, u1, u2, u3, u4, .bool neg, .int .i64 (j : Nat), .string d, .int .i64 (z : Nat), u9, u10, u11, u12, u13, u14, u15, u16, u17, u18, u19, u20, u21, u22, u23, u24, u25, u26, u27, u28, u29, u30, u31, u32, u33, u34, u35, u36, u37, u38, u39, u40, u41, u42, u43, u44, u45, u46, u47, u48, u49, u50, u51, u52, u53, u54, u55, u56, u57, u58, u59, u60, u61, u62, u63, u64, u65, u66, u67, u68, u69, u70, u71, u72, u73, u74, u75, u76, u77, u78, u79, u80, u81, u82, u83, u84, u85, u86, u87, u88, u89, u90, u91, u92, u93, u94, u95, u96, u97, u98, u99, u100, u101, u102, u103], []⟩ w := by
  delta Tryd.f5
  dsimp only [tl, Option.getD_some]
  have hle : z ≤ d.size := by have := span_le p0 d.data.toList; rw [len_eq] at this; omega
  have hle' : (z : Int) ≤ (d.size : Int) := by omega
  have eL : (d.extract z d.size).data.toList = d.data.toList.drop z := by
    rw [ext_list, List.take_of_length_le]; rw [List.length_drop, len_eq]; omega
  rw [← hz, ← eL] at hQ
  have HN : Hid (Num (d.extract z d.size).data.toList) := by
    rw [eL]; exact ⟨fun c hc => hd c (List.mem_of_mem_drop hc), by rw [hz]; exact drop_zero_head _⟩
  have HSZ : Hid ((d.extract z d.size).size ≤ 1048576) := by rw [ext_size _ _ _ (Nat.le_refl _)]; show _ ≤ _; omega
  have HQ : Hid (Post w (r10 neg d.size j s.size (d.extract z d.size).data.toList) Q) := hQ
  clear hQ hd hz eL
  apply wp_seq_k; intro K1 aK1
  have HK : Hid (∀ a w, _ → K1 a w) := aK1
  clear aK1
  go_wp2_with fail
  exact HK.out _ _ (tail10 neg s d (d.extract z d.size) j hs hds hj HSZ.out HN.out w Q HQ.out)

set_option maxRecDepth 10000 in
set_option maxHeartbeats 1000000 in
theorem tail7 (neg : Bool) (s d : ByteArray) (j : Nat) (hs : s.size ≤ 1048576) (hds : d.size ≤ 1048576) (hj : j ≤ 1048576) (hd : ∀ c ∈ d.data.toList, dig c = true) (w : World)
    {u1 u2 u3 u4 u8 u9 u10 u11 u12 u13 u14 u15 u16 u17 u18 u19 u20 u21 u22 u23 u24 u25 u26 u27 u28 u29 u30 u31 u32 u33 u34 u35 u36 u37 u38 u39 u40 u41 u42 u43 u44 u45 u46 u47 u48 u49 u50 u51 u52 u53 u54 u55 u56 u57 u58 u59 u60 u61 u62 u63 u64 u65 u66 u67 u68 u69 u70 u71 u72 u73 u74 u75 u76 u77 u78 u79 u80 u81 u82 u83 u84 u85 u86 u87 u88 u89 u90 u91 u92 u93 u94 u95 u96 u97 u98 u99 u100 u101 u102 u103 : Value} (Q : Exit → Act → World → Prop) (hQ : Post w (r10 neg d.size j s.size (d.data.toList.drop (span p0 d.data.toList))) Q) :
    Code.wp Tryd.prog (tl 7 (Tryd.f5.body.getD .skip)) Q ⟨#[.string s, u1, u2, u3, u4, .bool neg, .int .i64 (j : Nat), .string d, u8, u9, u10, u11, u12, u13, u14, u15, u16, u17, u18, u19, u20, u21, u22, u23, u24, u25, u26, u27, u28, u29, u30, u31, u32, u33, u34, u35, u36, u37, u38, u39, u40, u41, u42, u43, u44, u45, u46, u47, u48, u49, u50, u51, u52, u53, u54, u55, u56, u57, u58, u59, u60, u61, u62, u63, u64, u65, u66, u67, u68, u69, u70, u71, u72, u73, u74, u75, u76, u77, u78, u79, u80, u81, u82, u83, u84, u85, u86, u87, u88, u89, u90, u91, u92, u93, u94, u95, u96, u97, u98, u99, u100, u101, u102, u103], []⟩ w := by
  delta Tryd.f5
  dsimp only [tl, Option.getD_some]
  have HD : Hid (∀ c ∈ d.data.toList, dig c = true) := hd
  have HQ : Hid (Post w (r10 neg d.size j s.size (d.data.toList.drop (span p0 d.data.toList))) Q) := hQ
  clear hQ hd
  go_wp2_with fail
  rename_i K1 aK1
  have HK : Hid (∀ a w, _ → K1 a w) := aK1
  clear aK1
  go_loop [8] (fun z => ∃ k : Nat, k ≤ d.size ∧ z = .int .i64 k ∧ span p0 d.data.toList = k + span p0 (d.data.toList.drop k)) (fun z => d.size - (intOf z).toNat)
  case atStart => exact ⟨0, Nat.zero_le _, rfl, by simp⟩
  case round =>
    obtain ⟨k, hk, rfl, hsp⟩ := hrel
    have HS : Hid (span p0 d.data.toList = k + span p0 (d.data.toList.drop k)) := hsp
    clear hsp
    by_cases hlt : k < d.size
    · by_cases hc : (d[k].toNat : Int) = 48
      · go_wp2
        go_round
        case rel => exact ⟨k + 1, by omega, by go_num, by
          have e := HS.out
          rw [drop_cons d k hlt, span_cons, if_pos (show p0 d[k] = true from decide_eq_true (by omega))] at e
          omega⟩
        case measure => simp [intOf]; omega
      · have e : k = span p0 d.data.toList := by
          have e := HS.out
          rw [drop_cons d k hlt, span_cons, if_neg (show ¬ p0 d[k] = true from by simp only [p0, decide_eq_true_eq]; omega)] at e
          omega
        have HE : Hid (k = span p0 d.data.toList) := e
        clear e
        go_wp2_with fail
        exact HK.out _ _ (tail9 neg s d j k hs hds hj HD.out HE.out w Q HQ.out)
    · have e : k = span p0 d.data.toList := by
        have e := HS.out
        rw [List.drop_of_length_le (by rw [len_eq]; omega)] at e
        exact e.symm
      have HE : Hid (k = span p0 d.data.toList) := e
      clear e
      go_wp2_with fail
      exact HK.out _ _ (tail9 neg s d j k hs hds hj HD.out HE.out w Q HQ.out)
end Go.Proofs.Qxb6612243aDoor
