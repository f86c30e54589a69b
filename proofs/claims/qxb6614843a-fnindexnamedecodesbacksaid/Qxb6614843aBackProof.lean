import Derived.Test.Qxb6614843aBack
import Derived.Test.Qxb6614843aRowKit
namespace Go.Proofs.Qxb6614843a.DecodesBack
open Go.ChangeShapes Go.WideShapes Go.ChangeAt Go.RowKit
open Go.ChangeMaps (open_string shut_string)

set_option maxRecDepth 100000 in
theorem lifted (os : Os) (started : os.Started) (H : Type) (enc : TypeId × Value → H) :
    ReturnsInHanded {} Try.checked os 5 .any (Rows.fnIndexNameDecodesBackSpec.pre6 enc Try.prog Try.f5 Rows.fnIndexNameDecodesBackRow.domain false) (Rows.fnIndexNameDecodesBackSpec.post enc Try.prog Try.f5 false true false false) := by
  refine returnsInHanded_of_change (C := Try.checked) own started (by kernel_rfl) Try.func5
    (ChangeSpec.witness6 (enc := enc) (C := Try.checked) false ⟨#[], #[.string ⟨#[]⟩, .slice none 0 0], []⟩ 8 (by kernel_rfl) (by kernel_rfl) (by kernel_rfl) (by kernel_rfl)) ?_
  intro W base args ds gs before hval0 hW hcnd _
  have hval : ∀ (j : Nat) t v, Try.f5.params[j]? = some t → args[j]? = some v → Value.okWide Try.prog W .any base t v := hval0
  have hW' := hW
  obtain ⟨p, q, hA0, hV, rfl, hfz, hnd⟩ := hW
  have hA : DataW.TrodAll enc Try.prog W 0 (fun _ => true) true Try.f5.params.toList args.toList ds p := hA0
  have hA1 := hA
  rw [Try.params5] at hA hval
  obtain ⟨v0, vs0, d0, ds0, p0, q0, hargs, rfl, rfl, h0, r0⟩ := trodAll_cons hA
  obtain ⟨v1, vs1, d1, ds1, p1, q1, rfl, rfl, rfl, h1, r1⟩ := trodAll_cons r0
  obtain ⟨rfl, rfl, rfl⟩ := trodAll_nil r1
  obtain rfl : args = #[v0, v1] := by cases args; simp_all
  obtain ⟨rfl, rfl⟩ := trodVars_none hV
  obtain ⟨s, rfl, _, _, hs⟩ := open_string Try.underlying9 (hval 0 9 v0 rfl rfl) h0
  obtain ⟨a, xs, c, rfl, hc, hcm, hx, hC⟩ := open_cols (hval 1 22 v1 rfl rfl) h1
  clear hA0 hval0 hval hA
  refine (back_walk s hs a c xs W hC (Nat.le_trans hc hcm) hx hc).mono fun e W' ⟨he, hg⟩ => ?_
  subst he
  exact ⟨_, rfl, ⟨_, _, _, _, _, _, hW', (trodAll_cons_mk (shut_bool Try.underlying4 _) trodAll_mk0), args_below laidOut hg (by kernel_rfl) hA1, rfl, hg.frame _, fun h => by cases h⟩⟩

theorem over : Rows.fnIndexNameDecodesBackRow.holds Try.pinned (OpenSpec.ofChange Rows.fnIndexNameDecodesBackSpec) :=
  OpenClaim.holds_of_wide 5 Try.f5 rfl rfl rfl rfl rfl rfl rfl ⟨rfl, rfl, rfl, rfl, rfl⟩ rfl rfl rfl rfl rfl (by kernel_rfl) Try.func5 (by kernel_rfl)
    (of_decide_eq_true (by kernel_rfl)) (by unfold Func.isWrapper; first | (rw [if_pos (by decide +kernel)]; kernel_rfl) | (rw [if_neg (by decide +kernel)]; exact ⟨rfl, rfl⟩))
    (fun os started H enc _ => lifted os started H enc)
end Go.Proofs.Qxb6614843a.DecodesBack
namespace Go.Proofs.Qxb6614843a
/-- THE STATEMENT. -/
theorem fnIndexNameDecodesBack_proved : Rows.FnIndexNameDecodesBackSaid := DecodesBack.over
end Go.Proofs.Qxb6614843a
