import Derived.Test.Qxb6612204aEnv
namespace Go.Proofs.Qxb6612204a
open Go.RowKit Plain
set_option linter.unusedVariables false

/-- a rank in an epoch -/
def rankAtI (rank epoch : Int) : Int := if epoch = 0 then rank else mix (bits .xor .u64 rank (IntKind.u64.wrap (epoch * 11400714819323198485)))
theorem rankAtI_bd (rank epoch : Int) (h0 : 0 ≤ rank) (h1 : rank ≤ 18446744073709551615) : 0 ≤ rankAtI rank epoch ∧ rankAtI rank epoch ≤ 18446744073709551615 := by
  unfold rankAtI
  split
  · exact ⟨h0, h1⟩
  · exact mix_bd _

set_option maxHeartbeats 400000 in
theorem rankAt_any (rank epoch : Int) (w : World) (h0 : 0 ≤ rank) (h1 : rank ≤ 18446744073709551615) (e0 : 0 ≤ epoch) (e1 : epoch ≤ 18446744073709551615) :
    Calls Try.prog 51 #[.int .u64 rank, .int .u64 epoch] w fun e w' => e = .returned (.int .u64 (rankAtI rank epoch)) ∧ w' = w := by
  by_cases h : epoch = 0
  · subst h
    go_enter Try.func51, Try.ntmps51
    go_wp2
    go_ret
    exact ⟨rfl, rfl⟩
  · obtain ⟨b0, b1⟩ := bits64_bd .xor rank (IntKind.u64.wrap (epoch * 11400714819323198485))
    have hne : (epoch == 0) = false := by simp [h]
    have HR : Hid (rankAtI rank epoch = mix (bits .xor .u64 rank (IntKind.u64.wrap (epoch * 11400714819323198485)))) := if_neg h
    go_enter Try.func51, Try.ntmps51
    go_wp2_with fail
    refine (mix_any _ _ b0 b1).mono ?_
    rintro e w' ⟨rfl, rfl⟩
    go_wp2
    go_ret
    exact ⟨ret_u64 HR.out.symm, rfl⟩

set_option maxHeartbeats 400000 in
theorem zzrankAt_any (rank epoch : Int) (w : World) (h0 : 0 ≤ rank) (h1 : rank ≤ 18446744073709551615) (e0 : 0 ≤ epoch) (e1 : epoch ≤ 18446744073709551615) :
    Calls Try.prog 21 #[.int .u64 rank, .int .u64 epoch] w fun e w' => e = .returned (.int .u64 (rankAtI rank epoch)) ∧ w' = w := by
  by_cases h : epoch = 0
  · subst h
    go_enter Try.func21, Try.ntmps21
    go_wp2
    go_ret
    exact ⟨rfl, rfl⟩
  · obtain ⟨b0, b1⟩ := bits64_bd .xor rank (IntKind.u64.wrap (epoch * 11400714819323198485))
    have hne : (epoch == 0) = false := by simp [h]
    have HR : Hid (rankAtI rank epoch = mix (bits .xor .u64 rank (IntKind.u64.wrap (epoch * 11400714819323198485)))) := if_neg h
    go_enter Try.func21, Try.ntmps21
    go_wp2_with fail
    refine (zzmix_any _ _ b0 b1).mono ?_
    rintro e w' ⟨rfl, rfl⟩
    go_wp2
    go_ret
    exact ⟨ret_u64 HR.out.symm, rfl⟩

section
variable (g : Nat) (node set : ByteArray) (rank holds : Int) (rec : List UInt8) (tomb : Array Value) (w : World) (hg : w.heap[g]? = some (.cells (stRow node set rank holds rec tomb) 64))
include hg
theorem st_cell3 : w.cell? ⟨g, 3, none⟩ = some (.int .i64 holds) := by rw [cell_of_row _ _ _ _ _ _ hg, st_get _ _ _ _ _ _ 3 (by omega)]; rfl
theorem holdsTomb_any : Calls Try.prog 17 #[.pointer (some ⟨g, 0, none⟩)] w fun e w' => e = .returned (.bool (holds == 2)) ∧ w' = w := by
  have hc := st_cell3 g node set rank holds rec tomb w hg
  clear hg
  go_enter Try.func17, Try.ntmps17
  go_wp2
  go_ret
  exact ⟨rfl, rfl⟩
theorem stateHolds_any : Calls Try.prog 18 #[.pointer (some ⟨g, 0, none⟩)] w fun e w' => e = .returned (.int .i64 holds) ∧ w' = w := by
  have hc := st_cell3 g node set rank holds rec tomb w hg
  clear hg
  go_enter Try.func18, Try.ntmps18
  go_wp2
  go_ret
  exact ⟨rfl, rfl⟩
end
theorem stateTomb_any (g : Nat) (w : World) : Calls Try.prog 19 #[.pointer (some ⟨g, 0, none⟩)] w fun e w' => e = .returned (.pointer (some ⟨g, 1028, none⟩)) ∧ w' = w := by
  go_enter Try.func19, Try.ntmps19
  go_wp2
  go_ret
  exact ⟨rfl, rfl⟩
end Go.Proofs.Qxb6612204a
