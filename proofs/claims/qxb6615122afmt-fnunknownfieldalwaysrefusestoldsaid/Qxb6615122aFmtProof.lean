import Derived.Test.Qxb6615122aFmtLaw
import Derived.Test.Qxb6615122aFmtCards
import Derived.ProofKit
import Derived.OpenShut
import Derived.ShutString
import Derived.SliceStrings
import Derived.Stop.JoinedAt
import Derived.Stop.Texts
import Derived.Stop.JoinedTold
import Derived.Stop.FmtQuoteTie
import Derived.Stop.FmtTextKit
import Derived.Stop.FmtTextVerbs
import Derived.SizedLaws
import Derived.SevenToldRow
namespace Go.Proofs.Qxb6615122aFmt
open Go.ChangeShapes Go.WideShapes Go.ChangeAt Go.RowKit Go.Kit
open Go.ChangeMaps (open_string shut_string)
open Go.Extern.Stop Go.Stop Go.Extern

theorem own : ownKnob Tryf.prog.godebug = none := by kernel_rfl
theorem laidOut : laidOutB Tryf.prog = true := by kernel_rfl
theorem cells9 : Tryf.prog.cellsOf 9 = 1 := by kernel_rfl
theorem add_at (b o j : Nat) : (⟨b, o, none⟩ : Addr).add j = ⟨b, o + j, none⟩ := by
  unfold Addr.add
  split
  · rename_i h; rw [h]; rfl
  · rfl


section
variable {H : Type} {enc : TypeId × Value → H}

/-- All arguments read as they did, where below the heap's old size nothing has turned. -/
theorem args_below {P : Program} (hl : laidOutB P = true) {W W' : World} (hb : Below W.heap.size W W') : ∀ {ts : List TypeId} {vs : List Value} {ds : List (DataW H)} {ps : List MemPlace},
    (ts.all fun t => P.readableRec t && decide (t < P.types.size)) = true →
    DataW.TrodAll enc P W 0 (fun _ => true) true ts vs ds ps → DataW.TrodAll enc P W' 0 (fun b => decide (b < W.heap.size)) true ts vs ds ps
  | [], vs, ds, ps, _, h => by
    obtain ⟨rfl, rfl, rfl⟩ := trodAll_nil h
    exact trodAll_mk0
  | t :: ts, vs, ds, ps, ht, h => by
    have hlt := h.lt
    obtain ⟨v, vs', d, ds', p, q, rfl, rfl, rfl, h1, h2⟩ := trodAll_cons h
    simp only [List.all_cons, Bool.and_eq_true, decide_eq_true_eq] at ht
    exact trodAll_cons_mk (Below.trod hl ht.1.1 ht.1.2 h1 hb (fun x hx => hlt x (List.mem_append_left _ hx))) (args_below hl hb ht.2 h2)

set_option maxRecDepth 100000 in
/-- A slice of strings that came in. -/
theorem open_cols {W : World} {base : Nat} {v : Value} {d : DataW H} {p : List MemPlace} (hv : Value.okWide Tryf.prog W .any base 22 v) (h : DataW.Trod enc Tryf.prog W 0 (fun _ => true) true 22 v d p) :
    ∃ a xs c, v = .slice a xs.length c ∧ xs.length ≤ c ∧ c ≤ maxLen ∧ (∀ x ∈ xs, x.size ≤ maxLen) ∧ Cols W a xs := by
  obtain ⟨a0, len, cap, rfl⟩ := okWide_slice Tryf.underlying22 hv
  obtain ⟨fuel, hf⟩ := h
  rcases open_strings Tryf.underlying22 Tryf.underlying9 cells9 hf with ⟨hcs, _⟩ | ⟨a, len', cap', ss, hcs, _, hl, hm, hz, _, hcell, hws⟩
  · simp [Value.cells] at hcs
    obtain ⟨rfl, rfl, rfl⟩ := hcs
    exact ⟨none, [], 0, rfl, Nat.le_refl _, Nat.zero_le _, by simp, .inl rfl⟩
  · simp [Value.cells] at hcs
    obtain ⟨rfl, rfl, rfl⟩ := hcs
    simp only [if_true] at hz
    have hlen : (ss.take len).length = len := by simp; omega
    refine ⟨some a, ss.take len, cap, by rw [hlen], by omega, hm, fun x hx => hws x (List.mem_of_mem_take hx), ?_⟩
    rcases Nat.eq_zero_or_pos len with h0 | h0
    · exact .inl (by rw [h0]; rfl)
    · obtain ⟨bk, off, spot⟩ := a
      have hspot : spot = none := by simpa [Addr.add] using World.cell?_spot (hcell 0 (by omega))
      subst hspot
      have hc0 := hcell 0 (by omega)
      refine .inr ⟨bk, off, rfl, by simpa [Addr.add] using World.block_lt_of_cell? _ _ hc0, fun j x hx => ?_⟩
      obtain ⟨hj, hx⟩ := List.getElem?_eq_some_iff.1 hx
      rw [hlen] at hj
      have hc := hcell j (by omega)
      rw [add_at] at hc
      rw [hc, ← hx]
      simp [List.getD_eq_getElem?_getD, List.getElem?_eq_getElem (show j < ss.length by omega)]
end

/-- What '%q' parses to. -/
theorem q_parse : (FmtText.parse [37, 113]).map FmtText.glue = some [.verb {} 113] := by rfl
/-- The told text of '%q' of a string: the string as strconv.Quote writes it. -/
theorem q_text (x : List UInt8) (hs : x.length < 2 ^ 64) : FmtText.text "fmt.Sprintf" (qReading x) = some (FmtText.quote false x) := by
  have hn := FmtText.operand_str_at (sh := Tryf.shape9) rfl rfl x hs
  rw [qReading, FmtText.text_sprintf_glued q_parse (FmtText.operands_cons hn FmtText.operands_nil)]
  simp [FmtText.render, FmtText.printArg_q_str]
/-- How long it is. -/
theorem q_len (F : Interp) (x : ByteArray) (hx : x.size ≤ 1048576) : (qText F.told x).size ≤ 10 * x.size + 2 := by
  have h1 := FmtText.quote_length_le x.data.toList
  have h2 : x.data.toList.length = x.size := Array.length_toList
  have ht := told_string F (q_text x.data.toList (by omega)) (by omega)
  rw [← textOf_list] at ht
  have h3 : (qText F.told x).data.toList.length = (qText F.told x).size := Array.length_toList
  rw [← h3]
  unfold qText
  rw [ht]
  omega

set_option maxRecDepth 100000 in
theorem lifted (os : Os) (started : os.Started) (H : Type) (enc : TypeId × Value → H) :
    ReturnsInTold none {} Tryf.checked os 3 .any Input.okWide ((OpenSpec.ofChange Rows.fnUnknownFieldAlwaysRefusesSpec).preRow enc Tryf.prog Tryf.f3 [] false []) (fun F => ((OpenSpec.ofChange Rows.fnUnknownFieldAlwaysRefusesSpec).at F).post enc Tryf.prog Tryf.f3 false true false false) (aloneAtReturn Tryf.prog) nothingAlways := by
  refine returnsInTold_of_row (C := Tryf.checked) (s := OpenSpec.ofChange Rows.fnUnknownFieldAlwaysRefusesSpec) (by kernel_rfl) own started (by kernel_rfl) Tryf.func3
    (OpenSpec.witness_stopped (enc := enc) (C := Tryf.checked) false ⟨#[], #[.string ⟨#[]⟩, .string ⟨#[]⟩, .slice none 0 0], []⟩ 8 (by kernel_rfl) (by kernel_rfl) (by kernel_rfl) (by kernel_rfl)) ?_
  intro F W base args ds gs before _ hF hval0 hW _ _ hsz _ _
  have hval : ∀ (j : Nat) t v, Tryf.f3.params[j]? = some t → args[j]? = some v → Value.okWide Tryf.prog W .any base t v := hval0
  have hW' := hW
  obtain ⟨p, q, hA0, hV, rfl, hfz, hnd⟩ := hW
  have hA : DataW.TrodAll enc Tryf.prog W 0 (fun _ => true) true Tryf.f3.params.toList args.toList ds p := hA0
  have hA1 := hA
  rw [Tryf.params3] at hA hval
  obtain ⟨v0, vs0, d0, ds0, p0, q0, hargs, rfl, rfl, h0, r0⟩ := trodAll_cons hA
  obtain ⟨v1, vs1, d1, ds1, p1, q1, rfl, rfl, rfl, h1, r1⟩ := trodAll_cons r0
  obtain ⟨v2, vs2, d2, ds2, p2, q2, rfl, rfl, rfl, h2, r2⟩ := trodAll_cons r1
  obtain ⟨rfl, rfl, rfl⟩ := trodAll_nil r2
  obtain rfl : args = #[v0, v1, v2] := by cases args; simp_all
  obtain ⟨rfl, rfl⟩ := trodVars_none hV
  obtain ⟨s, rfl, _, _, hs⟩ := open_string Tryf.underlying9 (hval 0 9 v0 rfl rfl) h0
  obtain ⟨t, rfl, _, _, ht⟩ := open_string Tryf.underlying9 (hval 1 9 v1 rfl rfl) h1
  obtain ⟨a, xs, c, rfl, hc, hcm, hx, hC⟩ := open_cols (hval 2 22 v2 rfl rfl) h2
  clear hA0 hval0 hval hA
  refine (law_walk F.told s t hs ht a c xs W hF hC (Nat.le_trans hc hcm) hx (fun x _ h => q_len F x h)).mono fun e W' ⟨he, hg⟩ => ?_
  subst he
  exact ⟨_, rfl, ⟨_, _, _, _, _, _, hW', (trodAll_cons_mk (shut_bool Tryf.underlying4 _) trodAll_mk0), args_below laidOut hg (by kernel_rfl) hA1, rfl, hg.frame _, fun h => by cases h⟩⟩

theorem laidOutP : laidOutB Tryf.pinned.checked.prog = true := by kernel_rfl
theorem stopsP : Tryf.pinned.checked.prog.stops = ["fmt.errorf", "fmt.Sprintf"] := by kernel_rfl
theorem stopKnobsP : Tryf.pinned.checked.prog.stopKnobs = [] := by kernel_rfl
theorem quietP (os : Os) : Stop.quiet Tryf.pinned.checked.prog os := by
  intro k hk
  rw [stopKnobsP] at hk
  cases hk

/-- THE STATEMENT: the told card. -/
theorem fnUnknownFieldAlwaysRefuses_proved : Rows.FnUnknownFieldAlwaysRefusesToldSaid :=
  Claim7.holds_of_told_any (c := Rows.fnUnknownFieldAlwaysRefusesRow) 3 Tryf.f3 "fmt.errorf" ["fmt.Sprintf"] [] Rows.fnUnknownFieldAlwaysRefusesCard.stood.harness false false (by kernel_rfl) rfl rfl rfl laidOutP (by kernel_rfl) rfl ⟨rfl, rfl, rfl, rfl, rfl, rfl, rfl⟩ rfl rfl (by kernel_rfl) (by kernel_rfl) Tryf.func3 (by kernel_rfl)
    (of_decide_eq_true (by kernel_rfl)) (of_decide_eq_true (by kernel_rfl)) stopsP.symm rfl stopKnobsP.symm (by kernel_rfl)
    (by kernel_rfl) (by kernel_rfl) (by kernel_rfl) (by kernel_rfl) (by kernel_rfl) (by kernel_rfl) (by kernel_rfl) (by kernel_rfl) (by kernel_rfl) rfl (by kernel_rfl) rfl rfl
    rfl rfl
    rfl (by kernel_rfl) (by kernel_rfl) (by kernel_rfl) (by decide) (by kernel_rfl)
    (OpenClaim.moreEntering_of (by kernel_rfl) (by kernel_rfl) (by kernel_rfl) (by kernel_rfl) (by kernel_rfl) (by kernel_rfl) (by kernel_rfl) (by kernel_rfl) (by kernel_rfl) (by kernel_rfl))
    ⟨_, WideRow.started_initial, quietP _⟩
    (fun os started _ H enc _ => lifted os started H enc)
end Go.Proofs.Qxb6615122aFmt
