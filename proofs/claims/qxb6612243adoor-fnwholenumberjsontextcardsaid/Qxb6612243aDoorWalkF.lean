import Derived.Test.Qxb6612243aDoorWalkE
namespace Go.Proofs.Qxb6612243aDoor
open Go.RowKit
set_option linter.unusedVariables false

set_option maxRecDepth 10000 in
set_option maxHeartbeats 1000000 in
theorem tail6 (neg : Bool) (s : ByteArray) (i j : Nat) (hs : s.size ≤ 1048576) (hi : i ≤ s.size) (hj : j = i + span dig (s.data.toList.drop i)) (w : World)
    {u1 u2 u3 u7 u8 u9 u10 u11 u12 u13 u14 u15 u16 u17 u18 u19 u20 u21 u22 u23 u24 u25 u26 u27 u28 u29 u30 u31 u32 u33 u34 u35 u36 u37 u38 u39 u40 u41 u42 u43 u44 u45 u46 u47 u48 u49 u50 u51 u52 u53 u54 u55 u56 u57 u58 u59 u60 u61 u62 u63 u64 u65 u66 u67 u68 u69 u70 u71 u72 u73 u74 u75 u76 u77 u78 u79 u80 u81 u82 u83 u84 u85 u86 u87 u88 u89 u90 u91 u92 u93 u94 u95 u96 u97 u98 u99 u100 u101 u102 u103 : Value} (Q : Exit → Act → World → Prop) (hQ : Post w (r10 neg ((s.data.toList.drop i).take (span dig (s.data.toList.drop i))).length (i + span dig (s.data.toList.drop i)) s.data.toList.length (((s.data.toList.drop i).take (span dig (s.data.toList.drop i))).drop (span p0 ((s.data.toList.drop i).take (span dig (s.data.toList.drop i)))))) Q) :
    Code.wp Tryd.prog (tl 6 (Tryd.f5.body.getD .skip)) Q ⟨#[.string s, u1, u2, u3, .int .i64 (i : Nat), .bool neg, .int .i64 (j : Nat), u7, u8, u9, u10, u11, u12, u13, u14, u15, u16, u17, u18, u19, u20, u21, u22, u23, u24, u25, u26, u27, u28, u29, u30, u31, u32, u33, u34, u35, u36, u37, u38, u39, u40, u41, u42, u43, u44, u45, u46, u47, u48, u49, u50, u51, u52, u53, u54, u55, u56, u57, u58, u59, u60, u61, u62, u63, u64, u65, u66, u67, u68, u69, u70, u71, u72, u73, u74, u75, u76, u77, u78, u79, u80, u81, u82, u83, u84, u85, u86, u87, u88, u89, u90, u91, u92, u93, u94, u95, u96, u97, u98, u99, u100, u101, u102, u103], []⟩ w := by
  delta Tryd.f5
  dsimp only [tl, Option.getD_some]
  have hle : j ≤ s.size := by have := span_le dig (s.data.toList.drop i); rw [List.length_drop, len_eq] at this; omega
  have hle' : (j : Int) ≤ (s.size : Int) := by omega
  have hij : (i : Int) ≤ (j : Int) := by omega
  have eL : (s.extract i j).data.toList = (s.data.toList.drop i).take (span dig (s.data.toList.drop i)) := by
    rw [ext_list, hj, Nat.add_sub_cancel_left]
  have HD : Hid (∀ c ∈ (s.extract i j).data.toList, dig c = true) := by rw [eL]; exact span_all _ _
  rw [← eL, ← hj, len_eq, len_eq] at hQ
  have HSZ : Hid ((s.extract i j).size ≤ 1048576) := by rw [ext_size _ _ _ hle]; show _ ≤ _; omega
  have HQ : Hid (Post w (r10 neg (s.extract i j).size j s.size ((s.extract i j).data.toList.drop (span p0 (s.extract i j).data.toList))) Q) := hQ
  have hj2 : j ≤ 1048576 := by omega
  clear hQ hj eL
  apply wp_seq_k; intro K1 aK1
  have HK : Hid (∀ a w, _ → K1 a w) := aK1
  clear aK1
  go_wp2_with fail
  exact HK.out _ _ (tail7 neg s (s.extract i j) j hs HSZ.out hj2 HD.out w Q HQ.out)

theorem dig_iff (c : UInt8) : dig c = true ↔ (48 : Int) ≤ (c.toNat : Int) ∧ (c.toNat : Int) ≤ 57 := by
  unfold dig; simp only [Bool.and_eq_true, decide_eq_true_eq]; omega

set_option maxRecDepth 10000 in
set_option maxHeartbeats 1000000 in
theorem tail4 (neg : Bool) (s : ByteArray) (i : Nat) (hs : s.size ≤ 1048576) (hi : i ≤ s.size) (w : World)
    {u1 u2 u3 u6 u7 u8 u9 u10 u11 u12 u13 u14 u15 u16 u17 u18 u19 u20 u21 u22 u23 u24 u25 u26 u27 u28 u29 u30 u31 u32 u33 u34 u35 u36 u37 u38 u39 u40 u41 u42 u43 u44 u45 u46 u47 u48 u49 u50 u51 u52 u53 u54 u55 u56 u57 u58 u59 u60 u61 u62 u63 u64 u65 u66 u67 u68 u69 u70 u71 u72 u73 u74 u75 u76 u77 u78 u79 u80 u81 u82 u83 u84 u85 u86 u87 u88 u89 u90 u91 u92 u93 u94 u95 u96 u97 u98 u99 u100 u101 u102 u103 : Value} (Q : Exit → Act → World → Prop) (hQ : Post w (r10 neg ((s.data.toList.drop i).take (span dig (s.data.toList.drop i))).length (i + span dig (s.data.toList.drop i)) s.data.toList.length (((s.data.toList.drop i).take (span dig (s.data.toList.drop i))).drop (span p0 ((s.data.toList.drop i).take (span dig (s.data.toList.drop i)))))) Q) :
    Code.wp Tryd.prog (tl 4 (Tryd.f5.body.getD .skip)) Q ⟨#[.string s, u1, u2, u3, .int .i64 (i : Nat), .bool neg, u6, u7, u8, u9, u10, u11, u12, u13, u14, u15, u16, u17, u18, u19, u20, u21, u22, u23, u24, u25, u26, u27, u28, u29, u30, u31, u32, u33, u34, u35, u36, u37, u38, u39, u40, u41, u42, u43, u44, u45, u46, u47, u48, u49, u50, u51, u52, u53, u54, u55, u56, u57, u58, u59, u60, u61, u62, u63, u64, u65, u66, u67, u68, u69, u70, u71, u72, u73, u74, u75, u76, u77, u78, u79, u80, u81, u82, u83, u84, u85, u86, u87, u88, u89, u90, u91, u92, u93, u94, u95, u96, u97, u98, u99, u100, u101, u102, u103], []⟩ w := by
  delta Tryd.f5
  dsimp only [tl, Option.getD_some]
  have HQ : Hid (Post w (r10 neg ((s.data.toList.drop i).take (span dig (s.data.toList.drop i))).length (i + span dig (s.data.toList.drop i)) s.data.toList.length (((s.data.toList.drop i).take (span dig (s.data.toList.drop i))).drop (span p0 ((s.data.toList.drop i).take (span dig (s.data.toList.drop i)))))) Q) := hQ
  clear hQ
  go_wp2_with fail
  rename_i K1 aK1
  have HK : Hid (∀ a w, _ → K1 a w) := aK1
  clear aK1
  go_loop [6] (fun z => ∃ k : Nat, k ≤ s.size ∧ z = .int .i64 k ∧ i + span dig (s.data.toList.drop i) = k + span dig (s.data.toList.drop k)) (fun z => s.size - (intOf z).toNat)
  case atStart => exact ⟨i, hi, rfl, rfl⟩
  case round =>
    obtain ⟨k, hk, rfl, hsp⟩ := hrel
    have HS : Hid (i + span dig (s.data.toList.drop i) = k + span dig (s.data.toList.drop k)) := hsp
    clear hsp
    by_cases hlt : k < s.size
    · by_cases hc : (48 : Int) ≤ (s[k].toNat : Int)
      · by_cases hc2 : (s[k].toNat : Int) ≤ 57
        · go_wp2
          go_round
          case rel => exact ⟨k + 1, by omega, by go_num, by
            have e := HS.out
            rw [drop_cons s k hlt, span_cons, if_pos ((dig_iff _).2 ⟨hc, hc2⟩)] at e
            omega⟩
          case measure => simp [intOf]; omega
        · have e : k = i + span dig (s.data.toList.drop i) := by
            have e := HS.out
            rw [drop_cons s k hlt, span_cons, if_neg (fun h => hc2 ((dig_iff _).1 h).2)] at e
            omega
          have HE : Hid (k = i + span dig (s.data.toList.drop i)) := e
          clear e
          go_wp2_with fail
          exact HK.out _ _ (tail6 neg s i k hs hi HE.out w Q HQ.out)
      · have e : k = i + span dig (s.data.toList.drop i) := by
          have e := HS.out
          rw [drop_cons s k hlt, span_cons, if_neg (fun h => hc ((dig_iff _).1 h).1)] at e
          omega
        have HE : Hid (k = i + span dig (s.data.toList.drop i)) := e
        clear e
        go_wp2_with fail
        exact HK.out _ _ (tail6 neg s i k hs hi HE.out w Q HQ.out)
    · have e : k = i + span dig (s.data.toList.drop i) := by
        have e := HS.out
        rw [List.drop_of_length_le (l := s.data.toList) (i := k) (by rw [len_eq]; omega)] at e
        exact e.symm
      have HE : Hid (k = i + span dig (s.data.toList.drop i)) := e
      clear e
      go_wp2_with fail
      exact HK.out _ _ (tail6 neg s i k hs hi HE.out w Q HQ.out)
end Go.Proofs.Qxb6612243aDoor
