import Derived.Test.Qxb6614843aInj
import Derived.Test.Qxb6614843aRowKit
namespace Go.Proofs.Qxb6614843a.Injective
open Go.ChangeShapes Go.WideShapes Go.ChangeAt Go.RowKit
open Go.ChangeMaps (open_string shut_string)

set_option maxRecDepth 100000 in
theorem lifted (os : Os) (started : os.Started) (H : Type) (enc : TypeId × Value → H) :
    ReturnsInHanded {} Try.checked os 3 .any (Rows.fnIndexNameInjectiveSpec.pre6 enc Try.prog Try.f3 Rows.fnIndexNameInjectiveRow.domain false) (Rows.fnIndexNameInjectiveSpec.post enc Try.prog Try.f3 false true false false) := by
  refine returnsInHanded_of_change (C := Try.checked) own started (by kernel_rfl) Try.func3
    (ChangeSpec.witness6 (enc := enc) (C := Try.checked) false ⟨#[], #[.string ⟨#[]⟩, .slice none 0 0, .string ⟨#[]⟩, .slice none 0 0], []⟩ 8 (by kernel_rfl) (by kernel_rfl) (by kernel_rfl) (by kernel_rfl)) ?_
  intro W base args ds gs before hval0 hW hcnd _
  have hval : ∀ (j : Nat) t v, Try.f3.params[j]? = some t → args[j]? = some v → Value.okWide Try.prog W .any base t v := hval0
  have hW' := hW
  obtain ⟨p, q, hA0, hV, rfl, hfz, hnd⟩ := hW
  have hA : DataW.TrodAll enc Try.prog W 0 (fun _ => true) true Try.f3.params.toList args.toList ds p := hA0
  have hA1 := hA
  rw [Try.params3] at hA hval
  obtain ⟨v0, vs0, d0, ds0, p0, q0, hargs, rfl, rfl, h0, r0⟩ := trodAll_cons hA
  obtain ⟨v1, vs1, d1, ds1, p1, q1, rfl, rfl, rfl, h1, r1⟩ := trodAll_cons r0
  obtain ⟨v2, vs2, d2, ds2, p2, q2, rfl, rfl, rfl, h2, r2⟩ := trodAll_cons r1
  obtain ⟨v3, vs3, d3, ds3, p3, q3, rfl, rfl, rfl, h3, r3⟩ := trodAll_cons r2
  obtain ⟨rfl, rfl, rfl⟩ := trodAll_nil r3
  obtain rfl : args = #[v0, v1, v2, v3] := by cases args; simp_all
  obtain ⟨rfl, rfl⟩ := trodVars_none hV
  obtain ⟨s, rfl, _, _, hs⟩ := open_string Try.underlying9 (hval 0 9 v0 rfl rfl) h0
  obtain ⟨a, xs, c, rfl, hc, hcm, hx, hC⟩ := open_cols (hval 1 22 v1 rfl rfl) h1
  obtain ⟨t, rfl, _, _, ht⟩ := open_string Try.underlying9 (hval 2 9 v2 rfl rfl) h2
  obtain ⟨b, ys, d, rfl, hd, hdm, hy, hD⟩ := open_cols (hval 3 22 v3 rfl rfl) h3
  clear hA0 hval0 hval hA
  refine (inj_walk s hs a c xs t ht b d ys W hC (Nat.le_trans hc hcm) hx hc hD (Nat.le_trans hd hdm) hy hd).mono fun e W' ⟨he, hg⟩ => ?_
  subst he
  exact ⟨_, rfl, ⟨_, _, _, _, _, _, hW', (trodAll_cons_mk (shut_bool Try.underlying4 _) trodAll_mk0), args_below laidOut hg (by kernel_rfl) hA1, rfl, hg.frame _, fun h => by cases h⟩⟩

theorem over : Rows.fnIndexNameInjectiveRow.holds Try.pinned (OpenSpec.ofChange Rows.fnIndexNameInjectiveSpec) :=
  OpenClaim.holds_of_wide 3 Try.f3 rfl rfl rfl rfl rfl rfl rfl ⟨rfl, rfl, rfl, rfl, rfl⟩ rfl rfl rfl rfl rfl (by kernel_rfl) Try.func3 (by kernel_rfl)
    (of_decide_eq_true (by kernel_rfl)) (by unfold Func.isWrapper; first | (rw [if_pos (by decide +kernel)]; kernel_rfl) | (rw [if_neg (by decide +kernel)]; exact ⟨rfl, rfl⟩))
    (fun os started H enc _ => lifted os started H enc)
end Go.Proofs.Qxb6614843a.Injective
namespace Go.Proofs.Qxb6614843a
/-- THE STATEMENT. -/
theorem fnIndexNameInjective_proved : Rows.FnIndexNameInjectiveSaid := Injective.over
end Go.Proofs.Qxb6614843a
