import Derived.Test.Qxb6612204aWalkB
import Derived.Test.Qxb6612204aShelf
namespace Go.Proofs.Qxb6612204a
open Go.RowKit Plain
set_option linter.unusedVariables false

set_option maxHeartbeats 400000 in
theorem lz64_any (x : Int) (w : World) (h0 : 0 ≤ x) (h1 : x ≤ 18446744073709551615) :
    Calls Try.prog 49 #[.int .u64 x] w fun e w' => e = .returned (.int .i64 (64 - (Lib.bitLen x.toNat : Int))) ∧ w' = w := by
  have hb : Lib.bitLen x.toNat ≤ 64 := Lib.bitLenAux_le 64 _ 64 (by omega)
  obtain ⟨b, hbb⟩ : ∃ b, b = Lib.bitLen x.toNat := ⟨_, rfl⟩
  go_enter Try.func49, Try.ntmps49
  go_wp2_with fail
  refine (Try.bits_Len64 x _ h0 h1).mono ?_
  rintro e w' ⟨rfl, rfl⟩
  rw [← hbb] at hb ⊢
  have HB : Hid (b = Lib.bitLen x.toNat) := hbb
  clear hbb
  go_wp2
  go_ret
  exact ⟨ret_i64 (by rw [← HB.out]), rfl⟩

theorem bitLen_at (n j : Nat) (h : 2 ^ j ≤ n) (h' : n < 2 ^ (j + 1)) (hj : j < 64) : Lib.bitLen n = j + 1 := by
  have h64 : n < 2 ^ 64 := Nat.lt_of_lt_of_le h' (Nat.pow_le_pow_right (by omega) (by omega))
  rw [Lib.bitLen_shift j n h h64]
  have e : n / 2 ^ j = 1 := by
    have hp : 0 < 2 ^ j := Nat.two_pow_pos j
    rw [Nat.pow_succ] at h'
    apply Nat.div_eq_of_lt_le <;> omega
  rw [e]
  rfl

theorem bit_val (x : Int) (k : Nat) (h0 : 0 ≤ x) (h1 : x ≤ 18446744073709551615) (hk : k < 64) (hx : x.toNat < 2 ^ (64 - k)) :
    bits .and .u64 (x / 2 ^ (63 - k)) 1 = ((x.toNat / 2 ^ (63 - k) : Nat) : Int) ∧ x.toNat / 2 ^ (63 - k) < 2 := by
  obtain ⟨n, rfl⟩ := Int.eq_ofNat_of_zero_le h0
  simp only [Int.toNat_natCast] at hx ⊢
  have hp : 0 < 2 ^ (63 - k) := Nat.two_pow_pos _
  have e64 : 64 - k = 63 - k + 1 := by omega
  rw [e64, Nat.pow_succ] at hx
  have hlt : n / 2 ^ (63 - k) < 2 := by
    rw [Nat.div_lt_iff_lt_mul hp]; omega
  have ec : ((n : Int) / 2 ^ (63 - k)) = ((n / 2 ^ (63 - k) : Nat) : Int) := by push_cast; rfl
  refine ⟨?_, hlt⟩
  rw [ec]
  generalize n / 2 ^ (63 - k) = m at hlt ⊢
  rw [and_one_u64 _ (by omega) (by omega)]
  omega

theorem bit_yes (x : Int) (k : Nat) (h0 : 0 ≤ x) (h1 : x ≤ 18446744073709551615) (hk : k < 64) (hx : x.toNat < 2 ^ (64 - k)) (hb : (bits .and .u64 (x / 2 ^ (63 - k)) 1 != 0) = true) : (k : Int) = 64 - (Lib.bitLen x.toNat : Int) := by
  obtain ⟨e, hl⟩ := bit_val x k h0 h1 hk hx
  rw [e] at hb
  have h1' : x.toNat / 2 ^ (63 - k) ≠ 0 := by
    intro h; rw [h] at hb; simp at hb
  have hp : 0 < 2 ^ (63 - k) := Nat.two_pow_pos _
  have hge : 2 ^ (63 - k) ≤ x.toNat := by
    rcases Nat.lt_or_ge x.toNat (2 ^ (63 - k)) with h | h
    · exact absurd (Nat.div_eq_of_lt h) h1'
    · exact h
  have e64 : 64 - k = 63 - k + 1 := by omega
  rw [e64] at hx
  rw [bitLen_at x.toNat (63 - k) hge hx (by omega)]
  omega
theorem bit_no (x : Int) (k : Nat) (h0 : 0 ≤ x) (h1 : x ≤ 18446744073709551615) (hk : k < 64) (hx : x.toNat < 2 ^ (64 - k)) (hb : (bits .and .u64 (x / 2 ^ (63 - k)) 1 != 0) = false) : x.toNat < 2 ^ (64 - (k + 1)) := by
  obtain ⟨e, hl⟩ := bit_val x k h0 h1 hk hx
  rw [e] at hb
  have h1' : x.toNat / 2 ^ (63 - k) = 0 := by
    simp only [bne_eq_false_iff_eq] at hb; omega
  have hp : 0 < 2 ^ (63 - k) := Nat.two_pow_pos _
  have e64 : 64 - (k + 1) = 63 - k := by omega
  rw [e64]
  rcases Nat.lt_or_ge x.toNat (2 ^ (63 - k)) with h | h
  · exact h
  · have := Nat.div_pos h hp; omega

set_option maxHeartbeats 400000 in
theorem zzlz_any (x : Int) (w : World) (h0 : 0 ≤ x) (h1 : x ≤ 18446744073709551615) :
    Calls Try.prog 45 #[.int .u64 x] w fun e w' => e = .returned (.int .i64 (64 - (Lib.bitLen x.toNat : Int))) ∧ w' = w := by
  go_enter Try.func45, Try.ntmps45
  go_wp2
  go_loop [3, 4] (fun n i => ∃ k : Nat, k ≤ 64 ∧ i = .int .i64 (63 - k : Int) ∧ n = .int .i64 k ∧ x.toNat < 2 ^ (64 - k)) (fun n _ => 64 - (intOf n).toNat)
  case atStart => exact ⟨0, by omega, rfl, rfl, by omega⟩
  case round =>
    obtain ⟨k, hk, rfl, rfl, hx⟩ := hrel
    have HX : Hid (x.toNat < 2 ^ (64 - k)) := hx
    clear hx
    by_cases hlt : k < 64
    · go_wp2
      · have hb : (bits BinOp.and IntKind.u64 (x / 2 ^ (63 - k)) 1 != 0) = true := by assumption
        go_ret
        exact ⟨ret_i64 (bit_yes x k h0 h1 hlt HX.out hb), rfl⟩
      · have hb : (bits BinOp.and IntKind.u64 (x / 2 ^ (63 - k)) 1 != 0) = false := by assumption
        go_round
        case rel => exact ⟨k + 1, by omega, by go_num, by go_num, bit_no x k h0 h1 hlt HX.out hb⟩
        case measure => simp [intOf]; omega
    · obtain rfl : k = 64 := by omega
      have hx0 : x.toNat = 0 := by have := HX.out; simp at this; omega
      have HX0 : Hid (x.toNat = 0) := hx0
      clear hx0
      go_wp2
      go_ret
      exact ⟨ret_i64 (by rw [HX0.out]; rfl), rfl⟩

end Go.Proofs.Qxb6612204a
