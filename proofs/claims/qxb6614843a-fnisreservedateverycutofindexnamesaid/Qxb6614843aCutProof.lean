import Derived.Test.Qxb6614843aCut
import Derived.Test.Qxb6614843aRowKit
namespace Go.Proofs.Qxb6614843a.Cut
open Go.ChangeShapes Go.WideShapes Go.ChangeAt Go.RowKit
open Go.ChangeMaps (open_string shut_string)

theorem byte_back {z : Int} (h : (Lit.int .u8 z).wf = true) : ((UInt8.ofNat z.toNat).toNat : Int) = z := by
  have h1 : IntKind.u8.min = 0 := by decide
  have h2 : IntKind.u8.max = 255 := by decide
  simp [Lit.wf, h1, h2] at h
  simp
  omega

set_option maxRecDepth 100000 in
/-- A slice of bytes that came in. -/
theorem open_byts {H : Type} {enc : TypeId × Value → H} {W : World} {base : Nat} {v : Value} {d : DataW H} {p : List MemPlace} (hv : Value.okWide Try.prog W .any base 27 v) (h : DataW.Trod enc Try.prog W 0 (fun _ => true) true 27 v d p) :
    ∃ a l c, v = .slice a l.length c ∧ l.length ≤ maxLen ∧ (a = none → c = 0) ∧ Byts W a l := by
  obtain ⟨a0, len, cap, rfl⟩ := okWide_slice Try.underlying27 hv
  obtain ⟨fuel, hf⟩ := h
  rcases open_ints Try.underlying27 Try.underlying5 cells5 hf with ⟨hcs, _⟩ | ⟨a, len', cap', zs, hcs, _, hl, hm, hz, _, hcell, hws⟩
  · simp [Value.cells] at hcs
    obtain ⟨rfl, rfl, rfl⟩ := hcs
    exact ⟨none, [], 0, rfl, Nat.zero_le _, fun _ => rfl, .inl rfl⟩
  · simp [Value.cells] at hcs
    obtain ⟨rfl, rfl, rfl⟩ := hcs
    simp only [if_true] at hz
    have hlen : ((zs.take len).map fun z => UInt8.ofNat z.toNat).length = len := by simp; omega
    refine ⟨some a, (zs.take len).map fun z => UInt8.ofNat z.toNat, cap, by rw [hlen], by omega, (fun h => by cases h), ?_⟩
    rcases Nat.eq_zero_or_pos len with h0 | h0
    · exact .inl (by rw [h0]; rfl)
    · obtain ⟨bk, off, spot⟩ := a
      have hspot : spot = none := by simpa [Addr.add] using World.cell?_spot (hcell 0 (by omega))
      subst hspot
      have hc0 := hcell 0 (by omega)
      refine .inr ⟨bk, off, rfl, by simpa [Addr.add] using World.block_lt_of_cell? _ _ hc0, fun j x hx => ?_⟩
      obtain ⟨hj, hx⟩ := List.getElem?_eq_some_iff.1 hx
      rw [hlen] at hj
      have hc := hcell j (by omega)
      rw [add_at] at hc
      have hzj : j < zs.length := by omega
      rw [hc, ← hx]
      simp only [List.getElem_map, List.getElem_take]
      rw [byte_back (hws _ (List.getElem_mem hzj))]
      simp [List.getD_eq_getElem?_getD, List.getElem?_eq_getElem hzj]

set_option maxRecDepth 100000 in
theorem lifted (os : Os) (started : os.Started) (H : Type) (enc : TypeId × Value → H) :
    ReturnsInHanded {} Try.checked os 4 .any (Rows.fnIsReservedAtEveryCutOfIndexNameSpec.pre6 enc Try.prog Try.f4 Rows.fnIsReservedAtEveryCutOfIndexNameRow.domain false) (Rows.fnIsReservedAtEveryCutOfIndexNameSpec.post enc Try.prog Try.f4 false true false false) := by
  refine returnsInHanded_of_change (C := Try.checked) own started (by kernel_rfl) Try.func4
    (ChangeSpec.witness6 (enc := enc) (C := Try.checked) false ⟨#[], #[.string ⟨#[]⟩, .slice none 0 0, .slice none 0 0], []⟩ 8 (by kernel_rfl) (by kernel_rfl) (by kernel_rfl) (by kernel_rfl)) ?_
  intro W base args ds gs before hval0 hW hcnd _
  have hval : ∀ (j : Nat) t v, Try.f4.params[j]? = some t → args[j]? = some v → Value.okWide Try.prog W .any base t v := hval0
  have hW' := hW
  obtain ⟨p, q, hA0, hV, rfl, hfz, hnd⟩ := hW
  have hA : DataW.TrodAll enc Try.prog W 0 (fun _ => true) true Try.f4.params.toList args.toList ds p := hA0
  have hA1 := hA
  rw [Try.params4] at hA hval
  obtain ⟨v0, vs0, d0, ds0, p0, q0, hargs, rfl, rfl, h0, r0⟩ := trodAll_cons hA
  obtain ⟨v1, vs1, d1, ds1, p1, q1, rfl, rfl, rfl, h1, r1⟩ := trodAll_cons r0
  obtain ⟨v2, vs2, d2, ds2, p2, q2, rfl, rfl, rfl, h2, r2⟩ := trodAll_cons r1
  obtain ⟨rfl, rfl, rfl⟩ := trodAll_nil r2
  obtain rfl : args = #[v0, v1, v2] := by cases args; simp_all
  obtain ⟨rfl, rfl⟩ := trodVars_none hV
  obtain ⟨s, rfl, _, _, hs⟩ := open_string Try.underlying9 (hval 0 9 v0 rfl rfl) h0
  obtain ⟨a, xs, c, rfl, hc, hcm, hx, hC⟩ := open_cols (hval 1 22 v1 rfl rfl) h1
  obtain ⟨b, tl, d, rfl, hm, hbn, hT⟩ := open_byts (hval 2 27 v2 rfl rfl) h2
  clear hA0 hval0 hval hA
  refine (cut_walk s hs a c xs b d tl W hC (Nat.le_trans hc hcm) hx hc hT hm hbn).mono fun e W' ⟨he, hg⟩ => ?_
  subst he
  exact ⟨_, rfl, ⟨_, _, _, _, _, _, hW', (trodAll_cons_mk (shut_bool Try.underlying4 _) trodAll_mk0), args_below laidOut hg (by kernel_rfl) hA1, rfl, hg.frame _, fun h => by cases h⟩⟩

theorem over : Rows.fnIsReservedAtEveryCutOfIndexNameRow.holds Try.pinned (OpenSpec.ofChange Rows.fnIsReservedAtEveryCutOfIndexNameSpec) :=
  OpenClaim.holds_of_wide 4 Try.f4 rfl rfl rfl rfl rfl rfl rfl ⟨rfl, rfl, rfl, rfl, rfl⟩ rfl rfl rfl rfl rfl (by kernel_rfl) Try.func4 (by kernel_rfl)
    (of_decide_eq_true (by kernel_rfl)) (by unfold Func.isWrapper; first | (rw [if_pos (by decide +kernel)]; kernel_rfl) | (rw [if_neg (by decide +kernel)]; exact ⟨rfl, rfl⟩))
    (fun os started H enc _ => lifted os started H enc)
end Go.Proofs.Qxb6614843a.Cut
namespace Go.Proofs.Qxb6614843a
/-- THE STATEMENT. -/
theorem fnIsReservedAtEveryCutOfIndexName_proved : Rows.FnIsReservedAtEveryCutOfIndexNameSaid := Cut.over
end Go.Proofs.Qxb6614843a
