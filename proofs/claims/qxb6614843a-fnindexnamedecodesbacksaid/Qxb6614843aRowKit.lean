import Derived.Test.Qxb6614843aNames
import Derived.Test.Qxb6614843aEq
import Derived.ProofKit
import Derived.OpenShut
import Derived.ShutString
import Derived.SliceStrings
namespace Go.Proofs.Qxb6614843a
open Go.ChangeShapes Go.WideShapes Go.ChangeAt Go.RowKit

theorem own : ownKnob Try.prog.godebug = none := by kernel_rfl
theorem laidOut : laidOutB Try.prog = true := by kernel_rfl
theorem cells9 : Try.prog.cellsOf 9 = 1 := by kernel_rfl
theorem cells5 : Try.prog.cellsOf 5 = 1 := by kernel_rfl

theorem add_at (b o j : Nat) : (⟨b, o, none⟩ : Addr).add j = ⟨b, o + j, none⟩ := by
  unfold Addr.add
  split
  · rename_i h; rw [h]; rfl
  · rfl

section
variable {H : Type} {enc : TypeId × Value → H}

/-- All arguments read as they did, where below the heap's old size nothing has turned. -/
theorem args_below {P : Program} (hl : laidOutB P = true) {W W' : World} (hb : Below W.heap.size W W') : ∀ {ts : List TypeId} {vs : List Value} {ds : List (DataW H)} {ps : List MemPlace},
    (ts.all fun t => P.readableRec t && decide (t < P.types.size)) = true →
    DataW.TrodAll enc P W 0 (fun _ => true) true ts vs ds ps → DataW.TrodAll enc P W' 0 (fun b => decide (b < W.heap.size)) true ts vs ds ps
  | [], vs, ds, ps, _, h => by
    obtain ⟨rfl, rfl, rfl⟩ := trodAll_nil h
    exact trodAll_mk0
  | t :: ts, vs, ds, ps, ht, h => by
    have hlt := h.lt
    obtain ⟨v, vs', d, ds', p, q, rfl, rfl, rfl, h1, h2⟩ := trodAll_cons h
    simp only [List.all_cons, Bool.and_eq_true, decide_eq_true_eq] at ht
    exact trodAll_cons_mk (Below.trod hl ht.1.1 ht.1.2 h1 hb (fun x hx => hlt x (List.mem_append_left _ hx))) (args_below hl hb ht.2 h2)

set_option maxRecDepth 100000 in
/-- A slice of strings that came in. -/
theorem open_cols {W : World} {base : Nat} {v : Value} {d : DataW H} {p : List MemPlace} (hv : Value.okWide Try.prog W .any base 22 v) (h : DataW.Trod enc Try.prog W 0 (fun _ => true) true 22 v d p) :
    ∃ a xs c, v = .slice a xs.length c ∧ xs.length ≤ c ∧ c ≤ maxLen ∧ (∀ x ∈ xs, x.size ≤ maxLen) ∧ Cols W a xs := by
  obtain ⟨a0, len, cap, rfl⟩ := okWide_slice Try.underlying22 hv
  obtain ⟨fuel, hf⟩ := h
  rcases open_strings Try.underlying22 Try.underlying9 cells9 hf with ⟨hcs, _⟩ | ⟨a, len', cap', ss, hcs, _, hl, hm, hz, _, hcell, hws⟩
  · simp [Value.cells] at hcs
    obtain ⟨rfl, rfl, rfl⟩ := hcs
    exact ⟨none, [], 0, rfl, Nat.le_refl _, Nat.zero_le _, by simp, .inl rfl⟩
  · simp [Value.cells] at hcs
    obtain ⟨rfl, rfl, rfl⟩ := hcs
    simp only [if_true] at hz
    have hlen : (ss.take len).length = len := by simp; omega
    refine ⟨some a, ss.take len, cap, by rw [hlen], by omega, hm, fun x hx => hws x (List.mem_of_mem_take hx), ?_⟩
    rcases Nat.eq_zero_or_pos len with h0 | h0
    · exact .inl (by rw [h0]; rfl)
    · obtain ⟨bk, off, spot⟩ := a
      have hspot : spot = none := by simpa [Addr.add] using World.cell?_spot (hcell 0 (by omega))
      subst hspot
      have hc0 := hcell 0 (by omega)
      refine .inr ⟨bk, off, rfl, by simpa [Addr.add] using World.block_lt_of_cell? _ _ hc0, fun j x hx => ?_⟩
      obtain ⟨hj, hx⟩ := List.getElem?_eq_some_iff.1 hx
      rw [hlen] at hj
      have hc := hcell j (by omega)
      rw [add_at] at hc
      rw [hc, ← hx]
      simp [List.getD_eq_getElem?_getD, List.getElem?_eq_getElem (show j < ss.length by omega)]
end
end Go.Proofs.Qxb6614843a
