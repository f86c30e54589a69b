import Derived.Test.Qxb6615122aFmtSizes
import Derived.Test.Qxb6615122aFmtFacts
import Derived.Test.Qxb6615122aFmtShelf
import Derived.Laws.OwnMore
import Derived.OwnWalk
import Derived.WalkSpells
namespace Go.Proofs.Qxb6615122aFmt
open Go.RowKit Go.Extern.Stop Go.Stop Go.Extern

attribute [local go_sem] Tryf.call13 Tryf.call11 Tryf.guard Tryf.fmtq Tryf.fmtqr Tryf.fmtl Tryf.fmtlr Tryf.op9_113 Tryf.op9_115 Tryf.op9_115w Tryf.ptr36 Tryf.elem36 Tryf.isError36

theorem info9 : (Tryf.prog.info? 9).map (fun i => (i.zero, i.size, i.bytes)) = some (some (.string ⟨#[]⟩), 1, 16) := by kernel_rfl
/-- What fmt is asked at '%q' of a string. -/
def qReading (x : List UInt8) : List (List UInt8) := [[37, 113], Tryf.shape9, FmtStop.pack x]
/-- What it answers. -/
def qText (F : Interp) (x : ByteArray) : ByteArray := FmtStop.textOf (F "fmt.Sprintf" (qReading x.data.toList) 0)
/-- The strings as cells. -/
def strC (xs : List ByteArray) : List Value := xs.map Value.string
/-- k strings, then empty ones up to n. -/
def padded (ys : List ByteArray) (n : Nat) : List ByteArray := ys ++ List.replicate (n - ys.length) ⟨#[]⟩

theorem join_len (sep : List UInt8) : ∀ (cs : List (List UInt8)), (Lib.join cs sep).length ≤ (cs.map List.length).sum + sep.length * cs.length := by
  intro cs
  cases cs with
  | nil => simp [Lib.join_nil]
  | cons c cs =>
    rw [Lib.join_cons]
    have h : ∀ r : List (List UInt8), (Lib.joinTail sep r).length = (r.map List.length).sum + sep.length * r.length := by
      intro r
      induction r with
      | nil => simp [Lib.joinTail]
      | cons x r ih =>
        simp only [Lib.joinTail, List.map_cons, List.flatten_cons, List.length_append, List.sum_cons, List.length_cons] at ih ⊢
        rw [ih, Nat.mul_add]
        omega
    rw [List.length_append, h]
    simp only [List.map_cons, List.sum_cons, List.length_cons, Nat.mul_add]
    omega

theorem padded_at {ys : List ByteArray} {n k : Nat} (h : ys.length ≤ k) (hk : k < n) : (strC (padded ys n))[k]? = some (.string ⟨#[]⟩) := by
  simp only [strC, padded, List.getElem?_map]
  rw [List.getElem?_append_right h, List.getElem?_replicate, if_pos (by omega)]
  rfl
theorem set_padded {ys : List ByteArray} {n k : Nat} {S : ByteArray} (h : ys.length = k) (hk : k < n) : (strC (padded ys n)).set k (.string S) = strC (padded (ys ++ [S]) n) := by
  subst h
  obtain ⟨m, rfl⟩ : ∃ m, n = ys.length + 1 + m := ⟨n - ys.length - 1, by omega⟩
  have e1 : ys.length + 1 + m - ys.length = m + 1 := by omega
  have e2 : ys.length + 1 + m - (ys.length + 1) = m := by omega
  simp only [strC, padded, List.length_append, List.length_cons, List.length_nil, Nat.zero_add, e1, e2, List.map_append, List.replicate_succ, List.map_cons, List.map_nil]
  rw [List.set_append, if_neg (by simp)]
  simp
theorem tot_app (ys : List ByteArray) (S : ByteArray) : tot (ys ++ [S]) = tot ys + S.size := by
  simp [tot]
theorem owns_cells {w : World} {base g n cap : Nat} {ys : List ByteArray} (h : w.ownsRow base 9 1 (.slice (some ⟨g, 0, none⟩) n cap) n (strC ys)) (hl : ys.length = n) : ∀ (j : Nat) x, ys[j]? = some x → w.cell? ⟨g, 0 + j, none⟩ = some (.string x) := by
  intro j x hx
  have hj : j < ys.length := (List.getElem?_eq_some_iff.1 hx).1
  rw [Nat.zero_add, h.cellAt j (by omega)]
  simp [strC, hx]
theorem join_any (g n : Nat) (ys : List ByteArray) (sep : ByteArray) (w : World) (hcells : ∀ (j : Nat) x, ys[j]? = some x → w.cell? ⟨g, 0 + j, none⟩ = some (.string x)) (hg : g < w.heap.size) (hl : ys.length = n) (hn : n ≤ 1048576) (hlen : (Lib.join (ys.map bts) sep.data.toList).length ≤ 20000000) :
    Calls Tryf.prog 14 #[.slice (some ⟨g, 0, none⟩) n n, .string sep] w fun e w' => e = .returned (.string ⟨(Lib.join (ys.map bts) sep.data.toList).toArray⟩) ∧ Below w.heap.size w w' := by
  subst hl
  exact Tryf.strings_Join g 0 ys.length ys sep w hcells hg (by omega) (Nat.le_refl _) (Nat.le_trans hlen (by omega))

set_option maxRecDepth 100000 in
set_option maxHeartbeats 2000000 in
theorem quoted_walk (F : Interp) (a : Option Addr) (c : Nat) (xs : List ByteArray) (w : World) (hF : F.answers w.tape) (hC : Cols w a xs) (hn : xs.length ≤ 1048576) (ht : tot xs ≤ 1048576) (hq : ∀ x ∈ xs, (qText F x).size ≤ 10 * x.size + 2) :
    Calls Tryf.prog 10 #[.slice a xs.length c] w fun e w' => ShortS 20000000 e ∧ Below w.heap.size w w' := by
  have HC := hideIt hC
  have HQ := hideIt hq
  have HF := hideIt hF
  clear hC hq hF
  obtain ⟨i9, hi, hz0, hz1, hz2⟩ := info_parts info9
  go_enter Tryf.func10, Tryf.ntmps10
  go_wp2_with (at_make; refine wpList_make_full _ rfl _ _ 22 rfl w.heap.size 9 i9 (.string ⟨#[]⟩) 1 Tryf.underlying22 hi hz0 hz1 _ _ _ _ xs.length rfl rfl rfl rfl (by rw [hz2]; omega) (by unfold maxLen; omega) (Nat.le_refl _) ?_)
  intro w2 hown2 hgr2
  have hB2 : Below w.heap.size w w2 := (Below.refl _ _).grown hgr2 (Nat.le_refl _) (fun k hk => by cases hk)
  have H2 : Hid (w2.ownsRow w.heap.size 9 1 (.slice (some ⟨w.heap.size, 0, none⟩) xs.length xs.length) xs.length (strC (padded [] xs.length))) := by
    have e : (madeCells (Value.string ⟨#[]⟩).cells (xs.length * 1)).toList = strC (padded [] xs.length) := by
      rw [Nat.mul_one]
      exact (toList_madeCells_one (.string ⟨#[]⟩) xs.length).trans (by simp [strC, padded])
    show w2.ownsRow _ _ _ _ _ (strC (padded [] xs.length))
    rw [← e, Nat.mul_one]
    exact hown2
  clear hown2 hgr2 hi hz0 hz1 hz2
  go_wp2_with fail
  go_loopw [11] (fun i W => ∃ (k : Nat) (ys : List ByteArray), k ≤ xs.length ∧ i = .int .i64 k ∧ Hid (ys.length = k) ∧ Hid (tot ys ≤ 10 * tot (xs.take k) + 2 * k) ∧ Hid (W.ownsRow w.heap.size 9 1 (.slice (some ⟨w.heap.size, 0, none⟩) xs.length xs.length) xs.length (strC (padded ys xs.length))) ∧ Below w.heap.size w W) (fun i _ => xs.length - (intOf i).toNat)
  case atStart => exact ⟨0, [], Nat.zero_le _, rfl, rfl, by show _ ≤ _; simp [tot], H2, hB2⟩
  case round =>
    clear H2 hB2
    obtain ⟨k, ys, hk, rfl, hyl, hyt, hown, hBr⟩ := hrel
    by_cases hlt : k < xs.length
    · rcases HC.out with h0 | ⟨bk, o, rfl, hb, hcell⟩
      · rw [h0] at hlt; simp at hlt
      have hc := (hBr.cell (p := ⟨bk, o + k, none⟩) hb).trans (hcell k _ (getk hlt))
      clear hcell
      have hFr : F.answers wr.tape := by rw [hBr.tape]; exact HF.out
      have hF' := answers_open hFr
      have hbw : bk < wr.heap.size := Nat.lt_of_lt_of_le hb hBr.size
      have hcellq : wr.cell? ⟨w.heap.size, k, none⟩ = some (.string ⟨#[]⟩) := by
        rw [hown.out.cellAt k (by omega)]
        exact padded_at (by rw [hyl.out]; exact Nat.le_refl _) hlt
      have hfroz := hown.out.frozenAt k
      have hgl : w.heap.size < wr.heap.size := (hown.out.lt _ rfl).2
      have hst := (hown.out.stored k (.string (qText F xs[k]))).1
      rw [set_padded (by rw [hyl.out]) hlt] at hst
      have H1 : Hid (((wr.setCell ⟨w.heap.size, k, none⟩ (.string (qText F xs[k]))).alloc (.cells #[.iface 9 (.string xs[k])] 20)).drew.ownsRow w.heap.size 9 1 (.slice (some ⟨w.heap.size, 0, none⟩) xs.length xs.length) xs.length (strC (padded (ys ++ [qText F xs[k]]) xs.length))) := (hst.alloc _).drew
      have H2 : Hid (tot (ys ++ [qText F xs[k]]) ≤ 10 * tot (xs.take (k + 1)) + 2 * (k + 1)) := by
        have h1 := hyt.out
        have h2 := HQ.out xs[k] (List.getElem_mem hlt)
        show _ ≤ _
        rw [tot_snoc hlt, tot_app]
        omega
      have H3 : Hid ((ys ++ [qText F xs[k]]).length = k + 1) := by show _ = _; rw [List.length_append, hyl.out]; rfl
      have hB3 : Below w.heap.size w ((wr.setCell ⟨w.heap.size, k, none⟩ (.string (qText F xs[k]))).alloc (.cells #[.iface 9 (.string xs[k])] 20)).drew := ((hBr.setCell (Nat.le_refl _) _).alloc (by simp; omega) _).drew
      have HB3 := hideIt hB3
      clear hst hB3 hown hyt hyl
      go_wp2_with fail
      exact ⟨⟨k + 1, ys ++ [qText F xs[k]], by omega, by go_num, H3, H2, H1, HB3.out⟩, by simp [intOf]; omega⟩
    · have hkn : xs.length = k := by omega
      have hyl' : ys.length = xs.length := by rw [hyl.out, hkn]
      have hown' := hown.out
      rw [show padded ys xs.length = ys from by simp [padded, hyl']] at hown'
      have hbnd : tot ys ≤ 12582912 := by
        have := hyt.out
        rw [List.take_of_length_le (by omega)] at this
        omega
      have hlen := join_len [44, 32] (ys.map bts)
      have hgl : w.heap.size < wr.heap.size := (hown.out.lt _ rfl).2
      have hcells := owns_cells hown' hyl'
      have HCE := hideIt hcells
      have HYL := hideIt hyl'
      have hlen' : (Lib.join (ys.map bts) [44, 32]).length ≤ 20000000 := by
        have e1 : ((ys.map bts).map List.length).sum = tot ys := by simp [tot, List.map_map, Function.comp_def]
        have e2 : (ys.map bts).length = xs.length := by rw [List.length_map]; exact hyl'
        rw [e1, e2] at hlen
        simp only [List.length_cons, List.length_nil] at hlen
        omega
      clear hlen hcells hyl' hown' hown hyt hyl hkn
      go_wp2_with fail
      refine (join_any w.heap.size xs.length ys _ wr HCE.out hgl HYL.out hn hlen').mono ?_
      rintro e w5 ⟨rfl, hB5⟩
      go_wp2_with fail
      go_ret
      exact ⟨⟨_, rfl, by show (Lib.join (ys.map bts) [44, 32]).toArray.size ≤ 20000000; simpa using hlen'⟩, hBr.trans (hB5.mono hBr.size)⟩
end Go.Proofs.Qxb6615122aFmt
