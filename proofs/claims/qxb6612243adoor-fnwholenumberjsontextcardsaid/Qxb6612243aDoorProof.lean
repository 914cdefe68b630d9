/-
  'Rows.FnWholeNumberJSONTextCardSaid': the row's statement (the listed variables opened, the law's walk, the witness in the door's own heap), then the tied card.
-/
import Derived.Test.Qxb6612243aDoorRows
import Derived.Test.Qxb6612243aDoorTie
import Derived.Test.Qxb6612243aDoorCards
import Derived.Test.Qxb6612243aDoorWalkH
import Derived.ProofKit
import Derived.LaidMore
import Derived.OpenShut
import Derived.ShutString
import Derived.Stop.Joined
import Derived.SevenTiedAt
namespace Go.Proofs.Qxb6612243aDoor
open Go.ChangeShapes Go.WideShapes Go.ChangeAt Go.RowKit
open Go.ChangeMaps (open_string shut_string)
set_option linter.unusedVariables false

theorem own : ownKnob Tryd.prog.godebug = none := by kernel_rfl
theorem gSyn : Tryd.prog.globalNamed "strconv.ErrSyntax" = some 0 := by kernel_rfl
theorem gRan : Tryd.prog.globalNamed "strconv.ErrRange" = some 1 := by kernel_rfl
theorem tSyn : (Tryd.prog.globals[0]?).map (·.type) = some 30 := by kernel_rfl
theorem tRan : (Tryd.prog.globals[1]?).map (·.type) = some 30 := by kernel_rfl

abbrev laidAll : List (String × DataW Unit) := Rows.fnWholeNumberJSONTextRow.laid

/-- The door's own heap meets the condition. -/
theorem door_met (os : Os) (args : Array Value) : laidMetH Tryd.prog laidAll ((World.doorLaid Tryd.prog 4000 os).forCall (fun _ _ => 0) ⟨#[], args, []⟩).memory :=
  laidMetH_of_parts3 (fuel := 10) (laidMet_of_run' 10 (by kernel_rfl) (by kernel_rfl)) (by kernel_rfl) (by kernel_rfl)

/-- WHAT THE CONDITION GIVES THE WALK: each of the two variables holds an error. -/
theorem of_laid {W : World} (h : laidMetH Tryd.prog laidAll W) : ∃ (tS tR : TypeId) (pS pR : Value), W.cell? ⟨0, 0, none⟩ = some (.iface tS pS) ∧ W.cell? ⟨1, 0, none⟩ = some (.iface tR pR) := by
  rw [MakeChecks.laidMetH_plain _ _ _ (by kernel_rfl)] at h
  obtain ⟨ps, ⟨g0, t0, cs0, f0, p0, q0, hg0, ht0, hv0, hd0, ⟨g1, t1, cs1, f1, p1, q1, hg1, ht1, hv1, hd1, ⟨g2, t2, cs2, f2, p2, q2, hg2, ht2, hv2, hd2, ⟨g3, t3, cs3, f3, p3, q3, hg3, ht3, hv3, hd3, ⟨g4, t4, cs4, f4, p4, q4, hg4, ht4, hv4, hd4, _, _⟩, _⟩, _⟩, _⟩, _⟩, _, _⟩ := h
  obtain rfl := Option.some.inj (gRan.symm.trans hg3)
  obtain rfl := Option.some.inj (gSyn.symm.trans hg4)
  obtain rfl := Option.some.inj (tRan.symm.trans ht3)
  obtain rfl := Option.some.inj (tSyn.symm.trans ht4)
  obtain ⟨_, uR, vR, eR, _, _⟩ := iface_of_trod Tryd.underlying30 hd3
  obtain ⟨_, uS, vS, eS, _, _⟩ := iface_of_trod Tryd.underlying30 hd4
  obtain ⟨l3⟩ := cs3
  obtain ⟨l4⟩ := cs4
  have eR' : l3 = [.iface uR vR] := eR
  have eS' : l4 = [.iface uS vS] := eS
  subst eR'
  subst eS'
  exact ⟨uS, uR, vS, vR, by simpa using World.var?_cell hg4 hv4 0, by simpa using World.var?_cell hg3 hv3 0⟩

set_option maxRecDepth 100000 in
theorem lifted (os : Os) (started : os.Started) (H : Type) (enc : TypeId × Value → H) :
    ReturnsInHanded {} Tryd.checked os 3 .any (fun w args => (Rows.fnWholeNumberJSONTextSpec.pre enc Tryd.prog Tryd.f3 [] false w args ∧ laidMetH Tryd.prog laidAll w) ∧ sizedMet enc Tryd.prog Tryd.f3 (OpenSpec.ofChange Rows.fnWholeNumberJSONTextSpec) false w args)
      (Rows.fnWholeNumberJSONTextSpec.post enc Tryd.prog Tryd.f3 false true false false) := by
  refine returnsInHanded_of_change_and (C := Tryd.checked) (X := fun w _ => laidMetH Tryd.prog laidAll w) (fun _ _ _ hh h => h.of_heap hh) own started (by kernel_rfl) Tryd.func3
    (ChangeSpec.witness_shaped (enc := enc) (C := Tryd.checked) (os := os) (X := fun w _ => laidMetH Tryd.prog laidAll w) false (World.doorLaid Tryd.prog 4000 os) #[.string ByteArray.empty] 8 rfl (World.shaped_of_RefB (by kernel_rfl) (by kernel_rfl)) (by kernel_rfl) (by kernel_rfl) (by kernel_rfl) (door_met os _)) ?_
  intro W base args ds gs before hval0 hW _ _ hL _
  have hval : ∀ (j : Nat) t v, Tryd.f3.params[j]? = some t → args[j]? = some v → Value.okWide Tryd.prog W .any base t v := hval0
  have hW' := hW
  obtain ⟨p, q, hA0, hV, rfl, hfz, hnd⟩ := hW
  have hA : DataW.TrodAll enc Tryd.prog W 0 (fun _ => true) true Tryd.f3.params.toList args.toList ds p := hA0
  rw [Tryd.params3] at hA hval
  obtain ⟨v0, d0, rfl, rfl, h0⟩ := trodAll_one hA
  obtain ⟨rfl, rfl⟩ := trodVars_none hV
  obtain ⟨a0, rfl, rfl, rfl, w0⟩ := open_string Tryd.underlying9 (hval 0 9 v0 rfl rfl) h0
  obtain ⟨tS, tR, pS, pR, hS, hR⟩ := of_laid hL
  clear hA0 hval0
  simp only [List.append_nil] at hW'
  refine (law_any a0 w0 W tS tR pS pR hS hR).mono fun e W' ⟨he, bel⟩ => ?_
  subst he
  exact ⟨_, rfl, _, _, _, [], _, [], hW', trodAll_mk1 (shut_bool Tryd.underlying4 _), trodAll_mk1 (shut_string Tryd.underlying9 w0), rfl, bel.frame _, fun h => by cases h⟩

theorem over : Rows.FnWholeNumberJSONTextSaid :=
  OpenClaim.holds_of_wide 3 Tryd.f3 rfl rfl rfl rfl rfl rfl rfl ⟨rfl, rfl, rfl, rfl, rfl⟩ rfl rfl rfl rfl rfl (by kernel_rfl) Tryd.func3 (by kernel_rfl)
    (of_decide_eq_true (by kernel_rfl)) (by unfold Func.isWrapper; first | (rw [if_pos (by decide +kernel)]; kernel_rfl) | (rw [if_neg (by decide +kernel)]; exact ⟨rfl, rfl⟩))
    (fun os started H enc _ => lifted os started H enc)

/-- THE STATEMENT: the card. -/
theorem fnWholeNumberJSONTextCard_proved : Rows.FnWholeNumberJSONTextCardSaid :=
  Claim7.holds_tied_plain_at .later [] [.data, .data, .data, .sentinel, .sentinel] true (true, "622e861c8c3f7fdb0a407caee8310d20f3a708ee327a9e75d3be20ae3114f77c") true
    over (fun _ h => by cases h) (by kernel_rfl) (fun _ h => by cases h) fnWholeNumberJSONText_row_tie rfl ⟨rfl, rfl⟩ (by kernel_rfl) rfl
    (fun f fn hf hfn => by
      obtain rfl : f = 3 := Option.some.inj ((show Tryd.prog.funcNamed "example.com/failover/failover/zzlaws_root_b1.FnWholeNumberJSONText" = some 3 by kernel_rfl).symm.trans hf) |>.symm
      obtain rfl : fn = Tryd.f3 := (Option.some.inj (Tryd.func3.symm.trans hfn)).symm
      exact ⟨by kernel_rfl, fun j t ht => by
        rw [Tryd.params3] at ht
        have h3 : t = 9 := by
          rcases j with _ | j
          · simpa using ht.symm
          · simp at ht
        subst h3
        exact (show Tryd.prog.wantsStandIn 9 = false by kernel_rfl)⟩)
    (by kernel_rfl)
end Go.Proofs.Qxb6612243aDoor
