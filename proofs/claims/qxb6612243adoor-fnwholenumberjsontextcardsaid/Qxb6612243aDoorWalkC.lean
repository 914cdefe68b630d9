import Derived.Test.Qxb6612243aDoorWalkB
namespace Go.Proofs.Qxb6612243aDoor
open Go.RowKit
set_option linter.unusedVariables false

theorem take_snoc (s : ByteArray) (k : Nat) (h : k < s.size) : s.data.toList.take (k + 1) = s.data.toList.take k ++ [s[k]] := by
  rw [List.take_succ_eq_append_getElem (by simpa using h)]; rfl
theorem valF_snoc (l : List UInt8) (c : UInt8) (a : Nat) : valF a (l ++ [c]) = valF a l * 10 + (c.toNat - 48) := by
  unfold valF; rw [List.foldl_append]; rfl
theorem valF_append (a b : List UInt8) (x : Nat) : valF x (a ++ b) = valF (valF x a) b := by
  unfold valF; rw [List.foldl_append]
theorem valF_take (l : List UInt8) (k : Nat) : valF 0 (l.take k) ≤ valF 0 l := by
  have : valF 0 l = valF (valF 0 (l.take k)) (l.drop k) := by rw [← valF_append, List.take_append_drop]
  rw [this]; exact valF_mono _ _

set_option maxRecDepth 10000 in
set_option maxHeartbeats 1000000 in
theorem tail12 (neg : Bool) (g : ByteArray) (hg : g.size ≤ 1048576) (hd : ∀ c ∈ g.data.toList, dig c = true) (hm : valF 0 g.data.toList ≤ 18446744073709551615) (h2 : gtB g.data.toList c2 = false → valF 0 g.data.toList ≤ 9223372036854775807) (h3 : gtB g.data.toList c3 = false → valF 0 g.data.toList ≤ 9223372036854775808) (w wn : World) (n0 : Nat) (hw : wn = w.drewN n0)
    {u0 u1 u2 u3 u4 u6 u7 u8 u10 u11 u12 u13 u14 u15 u16 u17 u18 u19 u20 u21 u22 u23 u24 u25 u26 u27 u28 u29 u30 u31 u32 u33 u34 u35 u36 u37 u38 u39 u40 u41 u42 u43 u44 u45 u46 u47 u48 u49 u50 u51 u52 u53 u54 u55 u56 u57 u58 u59 u60 u61 u62 u63 u64 u65 u66 u67 u68 u69 u70 u71 u72 u73 u74 u75 u76 u77 u78 u79 u80 u81 u82 u83 u84 u85 u86 u87 u88 u89 u90 u91 u92 u93 u94 u95 u96 u97 u98 u99 u100 u101 u102 u103 : Value} (Q : Exit → Act → World → Prop) (hQ : Post w (r14 neg g.data.toList) Q) :
    Code.wp Tryd.prog (tl 12 (Tryd.f5.body.getD .skip)) Q ⟨#[u0, u1, u2, u3, u4, .bool neg, u6, u7, u8, .string g, u10, u11, u12, u13, u14, u15, u16, u17, u18, u19, u20, u21, u22, u23, u24, u25, u26, u27, u28, u29, u30, u31, u32, u33, u34, u35, u36, u37, u38, u39, u40, u41, u42, u43, u44, u45, u46, u47, u48, u49, u50, u51, u52, u53, u54, u55, u56, u57, u58, u59, u60, u61, u62, u63, u64, u65, u66, u67, u68, u69, u70, u71, u72, u73, u74, u75, u76, u77, u78, u79, u80, u81, u82, u83, u84, u85, u86, u87, u88, u89, u90, u91, u92, u93, u94, u95, u96, u97, u98, u99, u100, u101, u102, u103], []⟩ wn := by
  delta Tryd.f5
  dsimp only [tl, Option.getD_some]
  have HQ : Hid (Post w (r14 neg g.data.toList) Q) := hQ
  have HD : Hid (∀ c ∈ g.data.toList, dig c = true) := hd
  have HM : Hid (valF 0 g.data.toList ≤ 18446744073709551615) := hm
  have H2 : Hid _ := h2
  have H3 : Hid _ := h3
  have HW : Hid (wn = w.drewN n0) := hw
  clear hQ hd hm h2 h3 hw
  go_wp2_with fail
  rename_i K1 aK1
  have HK : Hid (∀ a w, _ → K1 a w) := aK1
  clear aK1
  go_loop [10, 11] (fun v i => ∃ k : Nat, k ≤ g.size ∧ i = .int .i64 k ∧ v = .int .u64 (valF 0 (g.data.toList.take k) : Nat)) (fun _ i => g.size - (intOf i).toNat)
  case atStart => exact ⟨0, Nat.zero_le _, rfl, rfl⟩
  case round =>
    obtain ⟨k, hk, rfl, rfl⟩ := hrel
    by_cases hlt : k < g.size
    · have hsn : valF 0 (g.data.toList.take (k + 1)) = valF 0 (g.data.toList.take k) * 10 + (g[k].toNat - 48) := by
        rw [take_snoc g k hlt, valF_snoc]
      have hle := valF_take g.data.toList (k + 1)
      have hle2 := HM.out
      have hdk : dig g[k] = true := HD.out _ (by
        have : g[k] ∈ g.data.toList := by
          have e := drop_cons g k hlt
          exact List.mem_of_mem_drop (i := k) (by rw [e]; simp)
        exact this)
      simp only [dig, Bool.and_eq_true, decide_eq_true_eq] at hdk
      have HY : Hid (valF 0 (g.data.toList.take (k + 1)) = valF 0 (g.data.toList.take k) * 10 + (g[k].toNat - 48)) := hsn
      generalize valF 0 (g.data.toList.take (k + 1)) = Y at hsn hle
      generalize valF 0 (g.data.toList.take k) = X at *
      have b1 : (48 : Int) ≤ (g[k].toNat : Int) := by omega
      have b2 : (g[k].toNat : Int) ≤ 57 := by omega
      have b3 : (X : Int) * 10 + ((g[k].toNat : Int) - 48) ≤ 18446744073709551615 := by omega
      have b4 : (X : Int) * 10 ≤ 18446744073709551615 := by omega
      have b5 : (0 : Int) ≤ (X : Int) := by omega
      clear hsn hle hle2 hdk
      go_wp2
      go_round
      case rel => exact ⟨k + 1, by omega, by go_num, by rw [HY.out]; congr 1; omega⟩
      case measure => simp [intOf]; omega
    · go_wp2
      have e : k = g.size := by omega
      have e2 : g.data.toList.take k = g.data.toList := by rw [e]; exact List.take_of_length_le (by rw [len_eq]; omega)
      rw [e2]
      exact HK.out _ _ (tail14 neg g _ hg rfl H2.out H3.out w _ n0 HW.out Q HQ.out)
end Go.Proofs.Qxb6612243aDoor
