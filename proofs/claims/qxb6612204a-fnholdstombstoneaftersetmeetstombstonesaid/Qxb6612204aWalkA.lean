import Derived.Test.Qxb6612204aProg
import Derived.Test.Qxb6612204aKit
import Derived.Test.Qxb6612204aPlain
namespace Go.Proofs.Qxb6612204a
open Go.RowKit Plain
set_option linter.unusedVariables false

theorem ret_u64 {a b : Int} (h : a = b) : Ending.returned (.int .u64 a) = .returned (.int .u64 b) := by rw [h]
theorem ret_i64 {a b : Int} (h : a = b) : Ending.returned (.int .i64 a) = .returned (.int .i64 b) := by rw [h]
theorem ret_bool {a b : Bool} (h : a = b) : Ending.returned (.bool a) = .returned (.bool b) := by rw [h]
theorem Try.follows : Try.prog.follows .mixedOrders = true := by kernel_rfl

theorem take_snoc (s : ByteArray) (k : Nat) (h : k < s.size) : s.data.toList.take (k + 1) = s.data.toList.take k ++ [s[k]] := by
  rw [List.take_succ_eq_append_getElem (by simpa using h)]; rfl

set_option maxHeartbeats 400000 in
theorem fnv_any (h : Int) (s : ByteArray) (w : World) (hs : s.size ≤ maxLen) (h0 : 0 ≤ h) (h1 : h ≤ 18446744073709551615) :
    Calls Try.prog 34 #[.int .u64 h, .string s] w fun e w' => e = .returned (.int .u64 (fnv h s.data.toList)) ∧ w' = w := by
  unfold maxLen at hs
  go_enter Try.func34, Try.ntmps34
  go_wp2
  go_loop [0, 5] (fun n i => ∃ k : Nat, k ≤ s.size ∧ i = .int .i64 k ∧ n = .int .u64 (fnv h (s.data.toList.take k))) (fun _ i => s.size - (intOf i).toNat)
  case atStart => exact ⟨0, Nat.zero_le _, rfl, rfl⟩
  case round =>
    obtain ⟨k, hk, rfl, rfl⟩ := hrel
    obtain ⟨z0, z1⟩ := fnv_bd (s.data.toList.take k) h ⟨h0, h1⟩
    by_cases hlt : k < s.size
    · have hts : Hid (fnv h (s.data.toList.take (k + 1)) = fstep (fnv h (s.data.toList.take k)) s[k]) := by
        show _ = _
        rw [take_snoc s k hlt, fnv_snoc]
      obtain ⟨z, hz⟩ : ∃ z, z = fnv h (s.data.toList.take k) := ⟨_, rfl⟩
      rw [← hz] at hts z0 z1 ⊢
      clear hz
      go_wp2
      go_round
      case rel => exact ⟨k + 1, by omega, by go_num, by rw [hts.out]; rfl⟩
      case measure => simp [intOf]; omega
    · go_wp2
      go_ret
      exact ⟨ret_u64 (by rw [List.take_of_length_le (by simp; omega)]), rfl⟩

set_option maxHeartbeats 400000 in
theorem zzmix_any (h : Int) (w : World) (h0 : 0 ≤ h) (h1 : h ≤ 18446744073709551615) :
    Calls Try.prog 35 #[.int .u64 h] w fun e w' => e = .returned (.int .u64 (mix h)) ∧ w' = w := by
  go_enter Try.func35, Try.ntmps35
  go_wp2
  go_ret
  exact ⟨rfl, rfl⟩
set_option maxHeartbeats 400000 in
theorem mix_any (h : Int) (w : World) (h0 : 0 ≤ h) (h1 : h ≤ 18446744073709551615) :
    Calls Try.prog 53 #[.int .u64 h] w fun e w' => e = .returned (.int .u64 (mix h)) ∧ w' = w := by
  go_enter Try.func53, Try.ntmps53
  go_wp2
  go_ret
  exact ⟨rfl, rfl⟩
set_option maxHeartbeats 400000 in
theorem zzhash_any (s : ByteArray) (w : World) (hs : s.size ≤ maxLen) :
    Calls Try.prog 44 #[.string s] w fun e w' => e = .returned (.int .u64 (hash s.data.toList)) ∧ w' = w := by
  obtain ⟨b0, b1⟩ := fnv_bd s.data.toList fbase ⟨by decide, by decide⟩
  go_enter Try.func44, Try.ntmps44
  go_wp2_with fail
  refine (fnv_any fbase s _ hs (by decide) (by decide)).mono ?_
  rintro e w' ⟨rfl, rfl⟩
  go_wp2_with fail
  refine (zzmix_any _ _ b0 b1).mono ?_
  rintro e w' ⟨rfl, rfl⟩
  go_wp2
  go_ret
  exact ⟨rfl, rfl⟩

/-- what zzRank computes -/
def rankL (node set : List UInt8) : Int := mix (fnv (IntKind.u64.wrap (fnv fbase node * 1099511628211)) set)
theorem rankL_bd (a b : List UInt8) : 0 ≤ rankL a b ∧ rankL a b ≤ 18446744073709551615 := mix_bd _
set_option maxHeartbeats 400000 in
theorem zzrank_any (s t : ByteArray) (w : World) (hs : s.size ≤ maxLen) (ht : t.size ≤ maxLen) :
    Calls Try.prog 11 #[.string s, .string t] w fun e w' => e = .returned (.int .u64 (rankL s.data.toList t.data.toList)) ∧ w' = w := by
  obtain ⟨b0, b1⟩ := fnv_bd s.data.toList fbase ⟨by decide, by decide⟩
  have hw := wrap64_bd (fnv fbase s.data.toList * 1099511628211)
  obtain ⟨c0, c1⟩ := fnv_bd t.data.toList (IntKind.u64.wrap (fnv fbase s.data.toList * 1099511628211)) hw
  go_enter Try.func11, Try.ntmps11
  go_wp2_with fail
  refine (fnv_any fbase s _ hs (by decide) (by decide)).mono ?_
  rintro e w' ⟨rfl, rfl⟩
  go_wp2_with fail
  refine (fnv_any _ t _ ht hw.1 hw.2).mono ?_
  rintro e w' ⟨rfl, rfl⟩
  go_wp2_with fail
  refine (zzmix_any _ _ c0 c1).mono ?_
  rintro e w' ⟨rfl, rfl⟩
  go_wp2
  go_ret
  exact ⟨rfl, rfl⟩

set_option maxHeartbeats 400000 in
theorem new64a_any (w : World) :
    Calls Try.prog 52 #[] w fun e w' => e = .returned (.iface 92 (.pointer (some ⟨w.heap.size, 0, none⟩))) ∧ w' = w.alloc (.cells #[.int .u64 fbase] 91) := by
  go_enter Try.func52, Try.ntmps52
  go_wp2
  go_ret
  exact ⟨rfl, rfl⟩
end Go.Proofs.Qxb6612204a
