import Derived.Test.Qxb6612204aWalkD
namespace Go.Proofs.Qxb6612204a
open Go.RowKit Plain
set_option linter.unusedVariables false

theorem rk_z (h : Int) : 0 ≤ 64 - (Lib.bitLen (lx h).toNat : Int) ∧ 64 - (Lib.bitLen (lx h).toNat : Int) ≤ 64 ∧ 64 - (Lib.bitLen (lx h).toNat : Int) + 1 = ((rk h).toNat : Int) := by
  have hb := lx_bd h
  have hl : Lib.bitLen (lx h).toNat ≤ 64 := Lib.bitLenAux_le 64 _ 64 (by omega)
  refine ⟨by omega, by omega, ?_⟩
  rw [rk_toNat]
  unfold rkI
  generalize Lib.bitLen (lx h).toNat = b at hl ⊢
  simp [IntKind.wrap, IntKind.signed, IntKind.bits]
  omega

set_option maxHeartbeats 400000 in
theorem add_any (g o : Nat) (A D : Array Value) (l : List UInt8) (t : TypeId) (s : ByteArray) (w : World) (hs : s.size ≤ maxLen) (hA : A.size = o) (hl : l.length = 1024)
    (hg : w.heap[g]? = some (.cells (A ++ bv l ++ D) t)) :
    Calls Try.prog 38 #[.pointer (some ⟨g, o, none⟩), .string s] w fun e w' => e = .returned (.tuple #[]) ∧
      w'.heap[g]? = some (.cells (A ++ bv (addL l (Plain.hash s.data.toList)) ++ D) t) ∧ But g w w' := by
  subst hA
  have hgs : g < w.heap.size := (Array.getElem?_eq_some_iff.1 hg).1
  have HG : Hid (w.heap[g]? = some (.cells (A ++ bv l ++ D) t)) := hg
  have HHL : Hid (l.length = 1024) := hl
  clear hg hl
  obtain ⟨h0, h1⟩ := hash_bd s.data.toList
  go_enter Try.func38, Try.ntmps38
  go_wp2_with fail
  refine (hashID_any s _ hs).mono ?_
  obtain ⟨h, hh⟩ : ∃ h, h = Plain.hash s.data.toList := ⟨_, rfl⟩
  rw [← hh] at h0 h1 ⊢
  have HH : Hid (h = Plain.hash s.data.toList) := hh
  clear hh
  rintro e w1 ⟨rfl, hb1⟩
  have HG1 : Hid (w1.heap[g]? = some (.cells (A ++ bv l ++ D) t)) := (hb1.block _ hgs).trans HG.out
  have HB1 : Hid (But g w w1) := But.of_below hb1
  clear hb1 HG
  have hlb := lx_bd h
  go_wp2_with fail
  refine (lz64_any (lx h) _ hlb.1 hlb.2).mono ?_
  obtain ⟨hz0, hz1, hzr⟩ := rk_z h
  obtain ⟨z, hz⟩ : ∃ z : Int, z = 64 - (Lib.bitLen (lx h).toNat : Int) := ⟨_, rfl⟩
  rw [← hz] at hz0 hz1 hzr ⊢
  have HZR : Hid (z + 1 = ((rk h).toNat : Int)) := hzr
  clear hz hlb hzr
  rintro e w' ⟨rfl, rfl⟩
  have hcl : w'.cell? ⟨g, A.size + (h / 18014398509481984).toNat, none⟩ = some (.int .u8 ((l.getD (ix h) 0).toNat : Int)) := by
    rw [cell_of_row _ _ _ _ _ _ HG1.out]
    exact row_get _ _ _ _ (by rw [HHL.out]; exact ix_lt h h0 h1)
  have hfr : w'.frozen? ⟨g, A.size + (h / 18014398509481984).toNat, none⟩ = false := frozen_of_row _ _ _ _ _ HG1.out
  obtain ⟨x, hx⟩ : ∃ x, x = l.getD (ix h) 0 := ⟨_, rfl⟩
  rw [← hx] at hcl
  have HX : Hid (x = l.getD (ix h) 0) := hx
  clear hx
  by_cases hc : (x.toNat : Int) < z + 1
  · go_wp2
    go_end0
    have e : addL l h = l.set (ix h) (rk h) := by
      unfold addL
      rw [if_pos]
      rw [← HX.out, UInt8.lt_iff_toNat_lt]
      have := HZR.out
      omega
    refine ⟨rfl, ?_, HB1.out.trans (But.setCell _ _ _ _)⟩
    rw [← HH.out, e, heap_setCell_same _ _ _ _ _ _ HG1.out, ← row_set A D l (ix h) (rk h) (by rw [HHL.out]; exact ix_lt h h0 h1), ← HZR.out]
    rfl
  · go_wp2
    go_end0
    have e : addL l h = l := by
      unfold addL
      rw [if_neg]
      rw [← HX.out, UInt8.lt_iff_toNat_lt]
      have := HZR.out
      omega
    refine ⟨rfl, ?_, HB1.out⟩
    rw [← HH.out, e]
    exact HG1.out

set_option maxHeartbeats 400000 in
theorem zzadd_any (g o : Nat) (A D : Array Value) (l : List UInt8) (t : TypeId) (s : ByteArray) (w : World) (hs : s.size ≤ maxLen) (hA : A.size = o) (hl : l.length = 1024)
    (hg : w.heap[g]? = some (.cells (A ++ bv l ++ D) t)) :
    Calls Try.prog 20 #[.pointer (some ⟨g, o, none⟩), .string s] w fun e w' => e = .returned (.tuple #[]) ∧
      w'.heap[g]? = some (.cells (A ++ bv (addL l (Plain.hash s.data.toList)) ++ D) t) ∧ But g w w' := by
  subst hA
  have hgs : g < w.heap.size := (Array.getElem?_eq_some_iff.1 hg).1
  have HG : Hid (w.heap[g]? = some (.cells (A ++ bv l ++ D) t)) := hg
  have HHL : Hid (l.length = 1024) := hl
  clear hg hl
  obtain ⟨h0, h1⟩ := hash_bd s.data.toList
  go_enter Try.func20, Try.ntmps20
  go_wp2_with fail
  refine ((zzhash_any s _ hs).mono (R' := fun e w' => e = .returned (.int .u64 (Plain.hash s.data.toList)) ∧ Below w.heap.size w w') (fun e w' ⟨he, hw⟩ => ⟨he, hw ▸ Below.refl _ _⟩)).mono ?_
  obtain ⟨h, hh⟩ : ∃ h, h = Plain.hash s.data.toList := ⟨_, rfl⟩
  rw [← hh] at h0 h1 ⊢
  have HH : Hid (h = Plain.hash s.data.toList) := hh
  clear hh
  rintro e w1 ⟨rfl, hb1⟩
  have HG1 : Hid (w1.heap[g]? = some (.cells (A ++ bv l ++ D) t)) := (hb1.block _ hgs).trans HG.out
  have HB1 : Hid (But g w w1) := But.of_below hb1
  clear hb1 HG
  have hlb := lx_bd h
  go_wp2_with fail
  refine (zzlz_any (lx h) _ hlb.1 hlb.2).mono ?_
  obtain ⟨hz0, hz1, hzr⟩ := rk_z h
  obtain ⟨z, hz⟩ : ∃ z : Int, z = 64 - (Lib.bitLen (lx h).toNat : Int) := ⟨_, rfl⟩
  rw [← hz] at hz0 hz1 hzr ⊢
  have HZR : Hid (z + 1 = ((rk h).toNat : Int)) := hzr
  clear hz hlb hzr
  rintro e w' ⟨rfl, rfl⟩
  have hcl : w'.cell? ⟨g, A.size + (h / 18014398509481984).toNat, none⟩ = some (.int .u8 ((l.getD (ix h) 0).toNat : Int)) := by
    rw [cell_of_row _ _ _ _ _ _ HG1.out]
    exact row_get _ _ _ _ (by rw [HHL.out]; exact ix_lt h h0 h1)
  have hfr : w'.frozen? ⟨g, A.size + (h / 18014398509481984).toNat, none⟩ = false := frozen_of_row _ _ _ _ _ HG1.out
  obtain ⟨x, hx⟩ : ∃ x, x = l.getD (ix h) 0 := ⟨_, rfl⟩
  rw [← hx] at hcl
  have HX : Hid (x = l.getD (ix h) 0) := hx
  clear hx
  by_cases hc : (x.toNat : Int) < z + 1
  · go_wp2
    go_end0
    have e : addL l h = l.set (ix h) (rk h) := by
      unfold addL
      rw [if_pos]
      rw [← HX.out, UInt8.lt_iff_toNat_lt]
      have := HZR.out
      omega
    refine ⟨rfl, ?_, HB1.out.trans (But.setCell _ _ _ _)⟩
    rw [← HH.out, e, heap_setCell_same _ _ _ _ _ _ HG1.out, ← row_set A D l (ix h) (rk h) (by rw [HHL.out]; exact ix_lt h h0 h1), ← HZR.out]
    rfl
  · go_wp2
    go_end0
    have e : addL l h = l := by
      unfold addL
      rw [if_neg]
      rw [← HX.out, UInt8.lt_iff_toNat_lt]
      have := HZR.out
      omega
    refine ⟨rfl, ?_, HB1.out⟩
    rw [← HH.out, e]
    exact HG1.out


end Go.Proofs.Qxb6612204a
