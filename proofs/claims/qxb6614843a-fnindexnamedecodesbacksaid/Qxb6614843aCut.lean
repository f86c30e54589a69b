import Derived.Test.Qxb6614843aRes
import Derived.Test.Qxb6614843aCutZz
namespace Go.Proofs.Qxb6614843a
open Go.RowKit

theorem info5 : (Try.prog.info? 5).map (fun i => (i.zero, i.size, i.bytes)) = some (some (.int .u8 0), 1, 1) := by kernel_rfl

theorem nameL_ge (s : ByteArray) (xs : List ByteArray) : 16 ≤ (nameL (bts s) (lsts xs)).length := by
  simp only [nameL, List.length_append, pre15, List.length_cons, List.length_nil]
  omega
theorem name_pre9 (t : List UInt8) (cs : List (List UInt8)) : ∃ r, nameL t cs = pre9 ++ r := ⟨[105, 110, 100, 101, 120, 46] ++ t ++ [46] ++ Lib.join cs [44], by simp [nameL, pre15, pre9]⟩

/-- A cut of a text that begins with "leafwise." begins with it exactly when it is long enough. -/
theorem cut_pre9 (r : List UInt8) (k : Nat) (hk : k ≤ (pre9 ++ r).length) : pre9.isPrefixOf ((pre9 ++ r).take k) = decide (9 ≤ k) := by
  rw [Bool.eq_iff_iff, List.isPrefixOf_iff_prefix, decide_eq_true_eq]
  constructor
  · intro h
    have := h.length_le
    simp [pre9] at this hk
    omega
  · intro h
    rw [List.take_append, List.take_of_length_le (show pre9.length ≤ k from h)]
    exact List.prefix_append _ _

theorem byts_cells {w : World} {g : Nat} {l : List UInt8} (h : Byts w (some ⟨g, 0, none⟩) l) : ∀ j u, (Lib.byteCells l)[j]? = some u → w.cell? ((⟨g, 0, none⟩ : Addr).add j) = some u := by
  intro j u hu
  simp only [Lib.byteCells, List.getElem?_map] at hu
  obtain ⟨x, hx, rfl⟩ := Option.map_eq_some_iff.1 hu
  rcases h with h | ⟨bk, o, ha, _, hc⟩
  · rw [h] at hx; simp at hx
  · cases ha
    rw [WideShapes.add_plain]
    exact hc j x hx
theorem byts_cells_any {w : World} {a : Option Addr} {l : List UInt8} (h : Byts w a l) : ∀ ad, a = some ad → ∀ j u, (Lib.byteCells l)[j]? = some u → w.cell? (ad.add j) = some u := by
  intro ad had j u hu
  simp only [Lib.byteCells, List.getElem?_map] at hu
  obtain ⟨x, hx, rfl⟩ := Option.map_eq_some_iff.1 hu
  rcases h with h | ⟨bk, o, ha, _, hc⟩
  · rw [h] at hx; simp at hx
  · rw [had] at ha
    cases ha
    rw [WideShapes.add_plain]
    exact hc j x hx
theorem byts_none {w : World} {a : Option Addr} {l : List UInt8} {d : Nat} (h : Byts w a l) (hd : a = none → d = 0) : a = none → l.length = 0 ∧ d = 0 := by
  intro e
  rcases h with h | ⟨_, _, ha, _, _⟩
  · exact ⟨by rw [h]; rfl, hd e⟩
  · rw [e] at ha; cases ha
theorem byteCells_one {l : List UInt8} : ∀ u ∈ Lib.byteCells l, u.oneCell' = true := by
  intro u hu
  obtain ⟨x, _, rfl⟩ := List.mem_map.1 hu
  rfl
theorem owns_byts {w : World} {base g n cap : Nat} {l : List UInt8} (h : w.ownsRow base 5 1 (.slice (some ⟨g, 0, none⟩) n cap) n (Lib.byteCells l)) : Byts w (some ⟨g, 0, none⟩) l := by
  rcases h.2 with ⟨h0, _⟩ | ⟨g', cap', cur, hv, hg, hh, hn, hc, hs, ht⟩
  · cases h0
  · cases hv
    refine .inr ⟨g, 0, rfl, (Array.getElem?_eq_some_iff.1 hh).1, fun j x hx => ?_⟩
    have hl := h.1
    have hj : j < l.length := (List.getElem?_eq_some_iff.1 hx).1
    simp only [Lib.byteCells, List.length_map] at hl
    rw [Nat.zero_add]
    simp only [World.cell?, hh]
    have h1 : (cur.toList.take (n * 1))[j]? = (Lib.byteCells l)[j]? := by rw [ht]
    rw [List.getElem?_take_of_lt (by omega)] at h1
    simp only [Lib.byteCells, List.getElem?_map, hx, Option.map_some, Array.getElem?_toList] at h1
    exact h1
theorem byts_take {w : World} {a : Option Addr} {l : List UInt8} (h : Byts w a l) (k : Nat) : Byts w a (l.take k) := by
  rcases h with h | ⟨bk, o, ha, hlt, hc⟩
  · exact .inl (by rw [h]; simp)
  · refine .inr ⟨bk, o, ha, hlt, fun j x hx => hc j x ?_⟩
    rw [List.getElem?_take] at hx
    split at hx
    · exact hx
    · cases hx
theorem zzres_any (a : Option Addr) (n c : Nat) (l : List UInt8) (w : World) (hb : Byts w a l) (hl : l.length = n) (hc : n ≤ c) :
    Calls Try.prog 15 #[.slice a n c] w fun e w' => e = .returned (.bool (pre9.isPrefixOf l)) ∧ Below w.heap.size w w' := by
  subst hl
  exact zzres_walk a c l w hb hc

set_option maxRecDepth 100000 in
set_option maxHeartbeats 2000000 in
theorem cut_walk (s : ByteArray) (hs : s.size ≤ maxLen) (a : Option Addr) (c : Nat) (xs : List ByteArray) (b : Option Addr) (d : Nat) (tl : List UInt8) (w : World) (hC : Cols w a xs) (hn : xs.length ≤ maxLen) (hx : ∀ x ∈ xs, x.size ≤ maxLen) (hc : xs.length ≤ c) (hT : Byts w b tl) (hm : tl.length ≤ maxLen) (hbn : b = none → d = 0) :
    Calls Try.prog 4 #[.string s, .slice a xs.length c, .slice b tl.length d] w fun e w' => e = .returned (.bool true) ∧ Below w.heap.size w w' := by
  have HX := hideIt hx
  have HC := hideIt hC
  have HT := hideIt hT
  have HN := hideIt hbn
  clear hx hC hT hbn
  go_enter Try.func4, Try.ntmps4
  go_wp2_with fail
  refine (zz14_walk s hs a c xs b tl.length d w HC.out hn HX.out hm).mono ?_
  rintro e w' ⟨⟨z, rfl, hz⟩, rfl⟩
  cases z
  · clear hz
    go_wp2_with fail
    go_ret
    exact ⟨rfl, Below.refl _ _⟩
  have hsum := hz rfl
  clear hz
  have k1 : s.size ≤ 1048576 := by omega
  have k2 : tl.length ≤ 1048576 := by omega
  have HS := hideIt hsum
  clear hsum
  rcases Nat.lt_or_ge 65536 xs.length with k3 | k3
  · go_wp2_with fail
    go_ret
    exact ⟨rfl, Below.refl _ _⟩
  go_wp2_with fail
  refine (add_walk _ a c xs _ HC.out hn HX.out).mono ?_
  rintro e w'' ⟨⟨t1, ok1, rfl⟩, rfl⟩
  cases ok1
  · go_wp2_with fail
    go_ret
    exact ⟨rfl, Below.refl _ _⟩
  go_wp2_with fail
  refine (zzindex_walk s a c xs _ HC.out hc (by have := HS.out; omega)).mono ?_
  rintro e w1 ⟨g1, c1, rfl, hg1, hk1, hkm1, hb1, hB1⟩
  have HT1 := hideIt (byts_below HT.out hB1 (Nat.le_refl _))
  have Hb1 := hideIt hb1
  clear hb1
  have hn1 := nameL_length s xs
  have hn2 := nameL_ge s xs
  have hn3 : (nameL (bts s) (lsts xs)).length ≤ 1048592 := by have := HS.out; omega
  generalize hnm : nameL (bts s) (lsts xs) = nm at *
  have HNM := hideIt hnm
  clear hnm
  obtain ⟨i0, hi, hz0, hz1, hz2⟩ := info_parts info5
  go_wp2_with (at_make; refine wpList_make_own _ rfl _ _ 27 rfl w1.heap.size 5 i0 (.int .u8 0) 1 Try.underlying27 hi hz0 hz1 _ _ _ (nm.length + tl.length) rfl rfl (by omega) (by rw [hz2]; omega) (by unfold maxLen; omega) (Nat.le_refl _) ?_)
  intro w2 hown2 hgr2
  have hB2 : Below w1.heap.size w1 w2 := (Below.refl _ _).grown hgr2 (Nat.le_refl _) (fun k hk => by cases hk)
  have Hb2 := hideIt (byts_below Hb1.out hB2 (Nat.le_refl _))
  have HT2 := hideIt (byts_below HT1.out hB2 (Nat.le_refl _))
  go_wp2_with (at_builtin; refine wpList_append_fits _ rfl _ _ 27 rfl w1.heap.size 5 i0 1 Try.underlying27 hi hz1 w1.heap.size 0 (nm.length + tl.length) [] rfl hown2 ⟨g1, 0, none⟩ nm.length c1 (Lib.byteCells nm) rfl (by simp [Lib.byteCells]) (byts_cells Hb2.out) byteCells_one (by omega) ?_)
  intro w3 hown3 hgr3
  have hB3 : Below w1.heap.size w2 w3 := (Below.refl _ _).grown hgr3 hB2.size (fun k hk => by cases hk; exact Nat.le_refl _)
  have HT3 := hideIt (byts_below HT1.out (hB2.trans hB3) (Nat.le_refl _))
  go_wp2_with (at_builtin; refine wpList_append_fits_any _ rfl _ _ 27 rfl w1.heap.size 5 i0 1 Try.underlying27 hi hz1 w1.heap.size nm.length (nm.length + tl.length) (Lib.byteCells nm) rfl (by simpa using hown3) b tl.length d (Lib.byteCells tl) rfl (by simp [Lib.byteCells]) (byts_none HT3.out HN.out) (byts_cells_any HT3.out) byteCells_one (by omega) ?_)
  intro w4 hown4 hgr4
  have hB4 : Below w1.heap.size w3 w4 := (Below.refl _ _).grown hgr4 (Nat.le_trans hB2.size hB3.size) (fun k hk => by cases hk; exact Nat.le_refl _)
  have hBall : Below w''.heap.size w'' w4 := hB1.trans (((hB2.trans hB3).trans hB4).mono hB1.size)
  have HF : Hid (Byts w4 (some ⟨w1.heap.size, 0, none⟩) (nm ++ tl)) := owns_byts (l := nm ++ tl) (by simpa [Lib.byteCells] using hown4)
  have hG : w1.heap.size < w4.heap.size := by
    rcases HF.out with h | ⟨bk, o, ha, hlt, _⟩
    · have : (nm ++ tl).length = 0 := by rw [h]; rfl
      simp at this
      rw [this.1] at hn2
      simp at hn2
    · cases ha; exact hlt
  have HP : Hid (∃ r, nm ++ tl = pre9 ++ r) := by
    obtain ⟨r, hr⟩ := name_pre9 (bts s) (lsts xs)
    refine ⟨r ++ tl, ?_⟩
    rw [← HNM.out, hr, List.append_assoc]
  clear hown2 hown3 hown4 hgr2 hgr3 hgr4 hi hz0 hz1 hz2 Hb1 Hb2 HT1 HT2 HT3 HT hB2 hB3 hB4 HNM hn1
  go_wp2_with fail
  go_loopw [11] (fun i W => ∃ k : Nat, k ≤ nm.length + tl.length + 1 ∧ i = .int .i64 k ∧ Below w4.heap.size w4 W) (fun i _ => nm.length + tl.length + 1 - (intOf i).toNat)
  case atStart => exact ⟨0, Nat.zero_le _, rfl, Below.refl _ _⟩
  case round =>
    obtain ⟨k, hk, rfl, hBr⟩ := hrel
    by_cases hlt : k ≤ nm.length + tl.length
    · have HFr := hideIt (byts_take (byts_below HF.out hBr (Nat.le_refl _)) k)
      have hlen : Hid (((nm ++ tl).take k).length = k) := by show _ = _; rw [List.length_take, List.length_append]; omega
      have hval : Hid (pre9.isPrefixOf ((nm ++ tl).take k) = decide (9 ≤ k)) := by
        obtain ⟨r, hr⟩ := HP.out
        show _ = _
        have hk' : k ≤ (pre9 ++ r).length := by rw [← hr, List.length_append]; omega
        rw [hr]
        exact cut_pre9 r k hk'
      by_cases h9 : 9 ≤ k
      · have hv : Hid (pre9.isPrefixOf ((nm ++ tl).take k) = true) := by show _ = _; rw [hval.out]; simpa using h9
        have h9b : decide ((9 : Int) ≤ (k : Int)) = true := by simp; omega
        go_wp2_with fail
        refine (zzres_any _ k _ _ _ HFr.out hlen.out hlt).mono ?_
        rintro e w5 ⟨rfl, hB5⟩
        rw [hv.out]
        go_wp2_with fail
        go_roundw
        case rel => exact ⟨k + 1, by omega, by go_num, hBr.trans (hB5.mono hBr.size)⟩
        case measure => simp [intOf]; omega
      · have hv : Hid (pre9.isPrefixOf ((nm ++ tl).take k) = false) := by show _ = _; rw [hval.out]; simpa using h9
        have h9b : decide ((9 : Int) ≤ (k : Int)) = false := by simp; omega
        go_wp2_with fail
        refine (zzres_any _ k _ _ _ HFr.out hlen.out hlt).mono ?_
        rintro e w5 ⟨rfl, hB5⟩
        rw [hv.out]
        go_wp2_with fail
        go_roundw
        case rel => exact ⟨k + 1, by omega, by go_num, hBr.trans (hB5.mono hBr.size)⟩
        case measure => simp [intOf]; omega
    · go_wp2_with fail
      go_ret
      exact ⟨rfl, hBall.trans (hBr.mono hBall.size)⟩
end Go.Proofs.Qxb6614843a
