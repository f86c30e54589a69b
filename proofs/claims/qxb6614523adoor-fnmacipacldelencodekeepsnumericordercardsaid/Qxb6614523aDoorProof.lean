import Derived.Test.Qxb6614523aDoorLaw
import Derived.Test.Qxb6614523aDoorTie
import Derived.Test.Qxb6614523aDoorCards
import Derived.ProofKit
import Derived.LaidMore
import Derived.OpenShut
import Derived.Stop.Joined
import Derived.OpenVars
import Derived.SevenTiedAt
namespace Go.Proofs.Qxb6614523aDoor
open Go.ChangeShapes Go.WideShapes Go.ChangeAt Go.RowKit

/-- The listed variable's name, off the given specification. -/
abbrev nm : String := Rows.fnMacipACLDelEncodeKeepsNumericOrderSpec.vars.headD ""
theorem own : ownKnob Tryd.prog.godebug = none := by kernel_rfl
theorem gE : Tryd.prog.globalNamed nm = some 0 := by kernel_rfl
theorem gEType : (Tryd.prog.globals[0]?).map (·.type) = some 35 := by kernel_rfl

/-- The door's own heap meets the condition. -/
theorem door_met (os : Os) (args : Array Value) : laidMetH Tryd.prog Rows.fnMacipACLDelEncodeKeepsNumericOrderRow.laid ((World.doorLaid Tryd.prog 400 os).forCall (fun _ _ => 0) ⟨#[], args, []⟩).memory :=
  laidMetH_of_parts3 (fuel := 8) (laidMet_of_run' 8 (by kernel_rfl) (by kernel_rfl)) (by kernel_rfl) (by kernel_rfl)

theorem bounds {n : Int} (h : (Lit.int .u32 n).wf = true) : 0 ≤ n ∧ n < 4294967296 := by
  have h1 : IntKind.u32.min = 0 := by decide
  have h2 : IntKind.u32.max = 4294967295 := by decide
  simp [Lit.wf, h1, h2] at h
  omega

set_option maxRecDepth 100000 in
theorem lifted (os : Os) (started : os.Started) (H : Type) (enc : TypeId × Value → H) :
    ReturnsInHanded {} Tryd.checked os 3 .any (fun w args => (Rows.fnMacipACLDelEncodeKeepsNumericOrderSpec.pre enc Tryd.prog Tryd.f3 [] false w args ∧ laidMetH Tryd.prog Rows.fnMacipACLDelEncodeKeepsNumericOrderRow.laid w) ∧ sizedMet enc Tryd.prog Tryd.f3 (OpenSpec.ofChange Rows.fnMacipACLDelEncodeKeepsNumericOrderSpec) false w args)
      (Rows.fnMacipACLDelEncodeKeepsNumericOrderSpec.post enc Tryd.prog Tryd.f3 false true false false) := by
  refine returnsInHanded_of_change_and (C := Tryd.checked) (X := fun w _ => laidMetH Tryd.prog Rows.fnMacipACLDelEncodeKeepsNumericOrderRow.laid w) (fun _ _ _ hh h => h.of_heap hh) own started (by kernel_rfl) Tryd.func3
    (ChangeSpec.witness_shaped (enc := enc) (C := Tryd.checked) (os := os) (X := fun w _ => laidMetH Tryd.prog Rows.fnMacipACLDelEncodeKeepsNumericOrderRow.laid w) false (World.doorLaid Tryd.prog 400 os) #[.int .u32 0, .int .u32 0] 8 rfl (World.shaped_of_RefB (by kernel_rfl) (by kernel_rfl)) (by kernel_rfl) (by kernel_rfl) (by kernel_rfl) (door_met os _)) ?_
  intro W base args ds gs before hval0 hW _ _ hL _
  have hval : ∀ (j : Nat) t v, Tryd.f3.params[j]? = some t → args[j]? = some v → Value.okWide Tryd.prog W .any base t v := hval0
  have hW' := hW
  obtain ⟨p, q, hA0, hV0, rfl, hfz, hnd⟩ := hW
  have hA : DataW.TrodAll enc Tryd.prog W 0 (fun _ => true) true Tryd.f3.params.toList args.toList ds p := hA0
  have hV : DataW.TrodVars enc Tryd.prog W (fun _ => true) [nm] gs q := hV0
  rw [Tryd.params3] at hA hval
  obtain ⟨v0, v1, d0, d1, p0, p1, rfl, rfl, rfl, h0, h1⟩ := trodAll_two hA
  obtain ⟨a, rfl, rfl, rfl, hwa⟩ := open_int Tryd.underlying22 (hval 0 22 v0 rfl rfl) h0
  obtain ⟨b, rfl, rfl, rfl, hwb⟩ := open_int Tryd.underlying22 (hval 1 22 v1 rfl rfl) h1
  have hba := bounds hwa
  have hbb := bounds hwb
  obtain ⟨a, rfl⟩ := Int.eq_ofNat_of_zero_le hba.1
  obtain ⟨b, rfl⟩ := Int.eq_ofNat_of_zero_le hbb.1
  clear hA0 hval0
  refine (law_walk a b (by omega) (by omega) W).mono fun e W' ⟨he, hg⟩ => ?_
  subst he
  obtain ⟨g1, rfl⟩ : ∃ g1, gs = [g1] := by
    match gs, hV with
    | [], h => exact h.elim
    | [g1], _ => exact ⟨g1, rfl⟩
    | _ :: _ :: _, h => obtain ⟨_, _, _, _, _, _, _, _, _, _, h, _⟩ := h; exact h.elim
  refine ⟨_, rfl, _, _, _, [], [] ++ [], q, hW', ?_, ?_, ?_, hg.frame _, fun h => by cases h⟩
  · exact trodAll_mk1 (shut_bool Tryd.underlying4 _)
  · exact trodAll_mk2 (shut_int Tryd.underlying22 hwa) (shut_int Tryd.underlying22 hwb)
  · exact Below.trodVars (by kernel_rfl) hg (ns := [nm]) (by kernel_rfl) hV

/-- The row's own statement. -/
theorem row_holds : Rows.FnMacipACLDelEncodeKeepsNumericOrderSaid :=
  OpenClaim.holds_of_wide 3 Tryd.f3 rfl rfl rfl rfl rfl rfl rfl ⟨rfl, rfl, rfl, rfl, rfl⟩ rfl rfl rfl rfl rfl (by kernel_rfl) Tryd.func3 (by kernel_rfl)
    (of_decide_eq_true (by kernel_rfl)) (by unfold Func.isWrapper; first | (rw [if_pos (by decide +kernel)]; kernel_rfl) | (rw [if_neg (by decide +kernel)]; exact ⟨rfl, rfl⟩))
    (fun os started H enc _ => lifted os started H enc)

/-- THE STATEMENT: the tied card. -/
theorem fnMacipACLDelEncodeKeepsNumericOrder_proved : Rows.FnMacipACLDelEncodeKeepsNumericOrderCardSaid :=
  Claim7.holds_tied_plain_at .later [] [.sentinel] true Rows.fnMacipACLDelEncodeKeepsNumericOrderCard.stood.harness false
    row_holds (fun _ h => by cases h) (by kernel_rfl) (fun _ h => by cases h) fnMacipACLDelEncodeKeepsNumericOrder_row_tie rfl ⟨rfl, rfl⟩ (by kernel_rfl) rfl
    (fun f fn hf hfn => by
      obtain rfl : f = 3 := Option.some.inj ((show Tryd.prog.funcNamed Rows.fnMacipACLDelEncodeKeepsNumericOrderRow.func = some 3 by kernel_rfl).symm.trans hf) |>.symm
      obtain rfl : fn = Tryd.f3 := (Option.some.inj (Tryd.func3.symm.trans hfn)).symm
      exact ⟨by kernel_rfl, fun j t ht => by
        rw [Tryd.params3] at ht
        have hm : t ∈ [22, 22] := by simpa using Array.mem_of_getElem? ht
        have hall : ([22, 22].all fun u => !Tryd.prog.wantsStandIn u) = true := by kernel_rfl
        exact (show Tryd.prog.wantsStandIn t = false by simpa using List.all_eq_true.1 hall t hm)⟩)
    (by kernel_rfl)
end Go.Proofs.Qxb6614523aDoor
