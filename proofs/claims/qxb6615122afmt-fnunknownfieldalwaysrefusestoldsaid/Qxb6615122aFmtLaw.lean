import Derived.Test.Qxb6615122aFmtUnknown
import Derived.Laws.CopyOwn
namespace Go.Proofs.Qxb6615122aFmt
open Go.RowKit Go.Extern.Stop Go.Stop Go.Extern

theorem size9 : (Tryf.prog.info? 9).map (·.size) = some 1 := by kernel_rfl
theorem tot_mem {xs : List ByteArray} {x : ByteArray} (h : x ∈ xs) : x.size ≤ tot xs := by
  unfold tot
  induction xs with
  | nil => cases h
  | cons y ys ih =>
    simp only [List.map_cons, List.sum_cons]
    rcases List.mem_cons.1 h with rfl | h
    · omega
    · have := ih h; omega
theorem owns_block {w : World} {base g n : Nat} {l : List Value} (h : w.ownsRow base 9 1 (.slice (some ⟨g, 0, none⟩) n n) n l) : ∃ cur : List Value, w.heap[g]? = some (.cells cur.toArray 9 (0, 0)) ∧ cur.length = n := by
  rcases h.2 with ⟨h0, _⟩ | ⟨g', cap', cur, hv, hg, hh, hn, hc, hs, ht⟩
  · cases h0
  · cases hv
    exact ⟨cur.toList, by simpa using hh, by simpa using hs⟩
theorem strC_one {xs : List ByteArray} : ∀ v ∈ strC xs, v.oneCell' = true := by
  intro v hv
  obtain ⟨x, _, rfl⟩ := List.mem_map.1 hv
  rfl

theorem copy_all {w0 w : World} {g B : Nat} {ad : Addr} {c : Nat} {xs : List ByteArray} {cur : List Value} (h : Cols w (some ad) xs) (hg : w.heap[g]? = some (.cells cur.toArray 9 (0, 0))) (hl : cur.length = xs.length) (hB : Below g w0 w) :
    ∃ w3, (Builtin.copy_ #[22, 22] 3 #[.slice (some ⟨g, 0, none⟩) xs.length B, .slice (some ad) xs.length c]).run Tryf.prog w = .ok (.int .i64 xs.length) w3 ∧ Cols w3 (some ⟨g, 0, none⟩) xs ∧ Below g w0 w3 := by
  rcases h with h | ⟨bk, o, ha, _, hc⟩
  · subst h
    exact ⟨w, run_copy_none w 22 22 3 9 _ _ 0 B 0 c Tryf.underlying22 size9 rfl, .inl rfl, hB⟩
  · cases ha
    have hlen : (strC xs).length = xs.length := by simp [strC]
    have hr := run_copy_row (P := Tryf.prog) w 22 22 3 9 g 0 xs.length B ⟨bk, o, none⟩ xs.length c cur.toArray 9 (strC xs) Tryf.underlying22 size9 hg (by rw [hlen]; simp) (fun j v hv => by
      simp only [strC, List.getElem?_map] at hv
      obtain ⟨x, hx, rfl⟩ := Option.map_eq_some_iff.1 hv
      rw [WideShapes.add_plain]
      exact hc j x hx) (by simp [hlen, hl]) strC_one
    have e : cur.toArray.toList.take 0 ++ strC xs ++ cur.toArray.toList.drop (0 + (strC xs).length) = strC xs := by
      rw [hlen, List.drop_of_length_le (by simp [hl])]
      simp
    rw [e, hlen] at hr
    refine ⟨_, hr, .inr ⟨g, 0, rfl, ?_, fun j x hx => ?_⟩, below_setRow hB (Nat.le_refl _) _⟩
    · have := (Array.getElem?_eq_some_iff.1 (setRow_heap w g _ (strC xs).toArray 9 (0, 0) hg)).1
      exact this
    · rw [Nat.zero_add]
      simp only [World.cell?, setRow_heap w g _ (strC xs).toArray 9 (0, 0) hg]
      show (strC xs).toArray[j]? = _
      simp [strC, hx]

set_option maxRecDepth 100000 in
set_option maxHeartbeats 2000000 in
/-- From the copy on. -/
theorem law_walk (F : Interp) (s t : ByteArray) (hs : s.size ≤ maxLen) (ht : t.size ≤ maxLen) (a : Option Addr) (c : Nat) (xs : List ByteArray) (w : World) (hF : F.answers w.tape) (hC : Cols w a xs) (hn : xs.length ≤ maxLen) (hx : ∀ x ∈ xs, x.size ≤ maxLen)
    (hq : ∀ x ∈ xs, x.size ≤ 1048576 → (qText F x).size ≤ 10 * x.size + 2) :
    Calls Tryf.prog 3 #[.string s, .string t, .slice a xs.length c] w fun e w' => e = .returned (.bool true) ∧ Below w.heap.size w w' := by
  have HX := hideIt hx
  have HC := hideIt hC
  have HQ := hideIt hq
  have HF := hideIt hF
  clear hx hC hq hF
  have hnn : ∀ (W : World), (binOp .neq 22 (.slice a xs.length c) (.slice none 0 0)).run Tryf.prog W = .ok (.bool (!a.isNone)) W := fun W => run_neq_slice_nil_any W 22 9 a xs.length c 0 0 Tryf.underlying22
  go_enter Tryf.func3, Tryf.ntmps3
  go_wp2_with fail
  refine (zz_walk s t hs ht a c xs w HC.out hn HX.out).mono ?_
  rintro e w' ⟨⟨z, rfl, hz⟩, rfl⟩
  cases z
  · clear hz
    go_wp2_with fail
    go_ret
    exact ⟨rfl, Below.refl _ _⟩
  have hsum := hz rfl
  clear hz
  have k1 : s.size ≤ 1048576 := by omega
  have k2 : t.size + s.size ≤ 1048576 := by omega
  have k3 : xs.length ≤ 1048576 := by omega
  have HS := hideIt hsum
  clear hsum
  cases a with
  | none =>
    have HCC := HC
    have HFF := HF
    have hBW : Below w'.heap.size w' w' := Below.refl _ _
    go_wp2_with fail
    refine (budget_walk _ none c xs _ HCC.out hn HX.out).mono ?_
    rintro e w5 ⟨⟨bt, rfl⟩, rfl⟩
    by_cases hbt : bt < 0
    · go_wp2_with fail
      go_ret
      exact ⟨rfl, hBW⟩
    go_wp2_with fail
    refine (zzunknown_walk F s t none c xs _ HFF.out HCC.out (by omega) k3 (by have := HS.out; omega) (fun x hx => HQ.out x hx (by have := HS.out; have := tot_mem hx; omega))).mono ?_
    rintro e w6 ⟨⟨v, rfl⟩, hB6⟩
    go_wp2_with fail
    go_ret
    exact ⟨rfl, hBW.trans (hB6.mono hBW.size)⟩
  | some ad =>
    obtain ⟨i9, hi, hz0, hz1, hz2⟩ := info_parts info9
    go_wp2_with (at_make; refine wpList_make_full _ rfl _ _ 22 rfl w'.heap.size 9 i9 (.string ⟨#[]⟩) 1 Tryf.underlying22 hi hz0 hz1 _ _ _ _ xs.length rfl rfl rfl rfl (by rw [hz2]; omega) (by unfold maxLen; omega) (Nat.le_refl _) ?_)
    intro w2 hown2 hgr2
    have hB2 : Below w'.heap.size w' w2 := (Below.refl _ _).grown hgr2 (Nat.le_refl _) (fun k hk => by cases hk)
    obtain ⟨cur, hcur, hcs⟩ := owns_block hown2
    have HC2 := hideIt (cols_below HC.out hB2 (Nat.le_refl _))
    obtain ⟨w3, hcp, hC3, hB3⟩ := copy_all (B := xs.length) (c := c) HC2.out hcur hcs hB2
    have HCC := hideIt hC3
    have HFF : Hid (F.answers w3.tape) := by
      show F.answers w3.tape
      rw [hB3.tape]; exact HF.out
    have hBW := hB3
    clear hown2 hgr2 hcur hcs hi hz0 hz1 hz2 hC3 hB3 hnn
    go_wp2_with fail
    refine (budget_walk _ (some ⟨w'.heap.size, 0, none⟩) xs.length xs _ HCC.out hn HX.out).mono ?_
    rintro e w5 ⟨⟨bt, rfl⟩, rfl⟩
    by_cases hbt : bt < 0
    · go_wp2_with fail
      go_ret
      exact ⟨rfl, hBW⟩
    go_wp2_with fail
    refine (zzunknown_walk F s t (some ⟨w'.heap.size, 0, none⟩) xs.length xs _ HFF.out HCC.out (by omega) k3 (by have := HS.out; omega) (fun x hx => HQ.out x hx (by have := HS.out; have := tot_mem hx; omega))).mono ?_
    rintro e w6 ⟨⟨v, rfl⟩, hB6⟩
    go_wp2_with fail
    go_ret
    exact ⟨rfl, hBW.trans (hB6.mono hBW.size)⟩
end Go.Proofs.Qxb6615122aFmt
