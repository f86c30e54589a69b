import Derived.Test.Qxb6614843aInjZz
import Derived.Test.Qxb6614843aName
namespace Go.Proofs.Qxb6614843a
open Go.RowKit

theorem lsts_inj {xs ys : List ByteArray} (h : lsts xs = lsts ys) : xs = ys := by
  induction xs generalizing ys with
  | nil => cases ys with
    | nil => rfl
    | cons y ys => simp [lsts] at h
  | cons x xs ih => cases ys with
    | nil => simp [lsts] at h
    | cons y ys =>
      simp only [lsts, List.map_cons, List.cons.injEq] at h
      rw [WideShapes.bytes_inj h.1, ih h.2]
theorem name_iff {s t : ByteArray} {xs ys : List ByteArray} (h1 : docd (bts s) (lsts xs)) (h2 : docd (bts t) (lsts ys)) : nameL (bts s) (lsts xs) = nameL (bts t) (lsts ys) ↔ s = t ∧ xs = ys := by
  rw [name_inj h1 h2]
  exact ⟨fun h => ⟨WideShapes.bytes_inj h.1, lsts_inj h.2⟩, fun h => by rw [h.1, h.2]; exact ⟨rfl, rfl⟩⟩
theorem byts_below {w w' : World} {a : Option Addr} {l : List UInt8} {B : Nat} (h : Byts w a l) (hb : Below B w w') (hB : w.heap.size ≤ B) : Byts w' a l := by
  rcases h with h | ⟨bk, o, ha, hlt, hc⟩
  · exact .inl h
  · exact .inr ⟨bk, o, ha, Nat.lt_of_lt_of_le hlt hb.size, fun j x hx => (hb.cell (p := ⟨bk, o + j, none⟩) (by show bk < B; omega)).trans (hc j x hx)⟩
theorem byts_drewN {w : World} {a : Option Addr} {l : List UInt8} (h : Byts w a l) (n : Nat) : Byts (w.drewN n) a l := h
theorem cols_drewN {w : World} {a : Option Addr} {l : List ByteArray} (h : Cols w a l) (n : Nat) : Cols (w.drewN n) a l := h
theorem below_drewN {B : Nat} {a w : World} (h : Below B a w) (n : Nat) : Below B a (w.drewN n) := ⟨h.os, h.tape, h.output, h.size, h.block⟩
theorem nameL_length (s : ByteArray) (xs : List ByteArray) : (nameL (bts s) (lsts xs)).length ≤ 16 + s.size + tot xs + xs.length := by
  have := lenJoin xs
  simp only [nameL, List.length_append, size_bts, pre15, List.length_cons, List.length_nil]
  omega
theorem not_bool {b : Bool} {P : Prop} (h : b = true ↔ P) (hP : ¬ P) : b = false := by
  cases b
  · rfl
  · exact absurd (h.1 rfl) hP
theorem yes_bool {b : Bool} {P : Prop} (h : b = true ↔ P) (hP : P) : b = true := h.2 hP

set_option maxHeartbeats 2000000 in
/-- From the two names on: both names follow the rule. -/
theorem inj_walk (s : ByteArray) (hs : s.size ≤ maxLen) (a : Option Addr) (c : Nat) (xs : List ByteArray) (t : ByteArray) (ht : t.size ≤ maxLen) (b : Option Addr) (d : Nat) (ys : List ByteArray) (w : World) (hC : Cols w a xs) (hn : xs.length ≤ maxLen) (hx : ∀ x ∈ xs, x.size ≤ maxLen) (hc : xs.length ≤ c) (hD : Cols w b ys) (hm : ys.length ≤ maxLen) (hy : ∀ x ∈ ys, x.size ≤ maxLen) (hd : ys.length ≤ d) :
    Calls Try.prog 3 #[.string s, .slice a xs.length c, .string t, .slice b ys.length d] w fun e w' => e = .returned (.bool true) ∧ Below w.heap.size w w' := by
  have HX := hideIt hx
  have HC := hideIt hC
  have HY := hideIt hy
  have HD := hideIt hD
  clear hx hC hy hD
  go_enter Try.func3, Try.ntmps3
  go_wp2_with fail
  refine (zz8_walk s hs a c xs t ht b d ys w HC.out hn HX.out HD.out hm HY.out).mono ?_
  rintro e w' ⟨⟨z, rfl, hz⟩, rfl⟩
  cases z
  · clear hz
    go_wp2_with fail
    go_ret
    exact ⟨rfl, Below.refl _ _⟩
  have hsum := hz rfl
  clear hz
  have k1 : s.size ≤ 1048576 := by omega
  have k2 : t.size ≤ 1048576 := by omega
  have HS := hideIt hsum
  clear hsum
  rcases Nat.lt_or_ge 65536 xs.length with k3 | k3
  · go_wp2_with fail
    go_ret
    exact ⟨rfl, Below.refl _ _⟩
  rcases Nat.lt_or_ge 65536 ys.length with k4 | k4
  · go_wp2_with fail
    go_ret
    exact ⟨rfl, Below.refl _ _⟩
  go_wp2_with fail
  refine (add_walk _ a c xs _ HC.out hn HX.out).mono ?_
  rintro e w'' ⟨⟨t1, ok1, rfl⟩, rfl⟩
  cases ok1
  · go_wp2_with fail
    go_ret
    exact ⟨rfl, Below.refl _ _⟩
  go_wp2_with fail
  refine (add_walk t1 b d ys _ HD.out hm HY.out).mono ?_
  rintro e w'' ⟨⟨t2, ok2, rfl⟩, rfl⟩
  cases ok2
  · go_wp2_with fail
    go_ret
    exact ⟨rfl, Below.refl _ _⟩
  go_wp2_with fail
  refine (doc_walk s hs a c xs _ HC.out hn HX.out).mono ?_
  rintro e w'' ⟨⟨d1, rfl, hd1⟩, rfl⟩
  have HD1 := hideIt hd1
  clear hd1
  cases d1
  · go_wp2_with fail
    go_ret
    exact ⟨rfl, Below.refl _ _⟩
  have HP1 : Hid (docd (bts s) (lsts xs)) := HD1.out.1 rfl
  clear HD1
  go_wp2_with fail
  refine (doc_walk t ht b d ys _ HD.out hm HY.out).mono ?_
  rintro e w'' ⟨⟨d2, rfl, hd2⟩, rfl⟩
  have HD2 := hideIt hd2
  clear hd2
  cases d2
  · go_wp2_with fail
    go_ret
    exact ⟨rfl, Below.refl _ _⟩
  have HP2 : Hid (docd (bts t) (lsts ys)) := HD2.out.1 rfl
  clear HD2
  go_wp2_with fail
  refine (zzindex_walk s a c xs _ HC.out hc (by have := HS.out; omega)).mono ?_
  rintro e w1 ⟨g1, c1, rfl, hg1, hk1, hkm1, hb1, hB1⟩
  have HC1 := hideIt (cols_below HC.out hB1 (Nat.le_refl _))
  have HD1' := hideIt (cols_below HD.out hB1 (Nat.le_refl _))
  go_wp2_with fail
  refine (zzindex_walk t b d ys _ HD1'.out hd (by have := HS.out; omega)).mono ?_
  rintro e w2 ⟨g2, c2, rfl, hg2, hk2, hkm2, hb2, hB2⟩
  have HC2 := hideIt (cols_below HC1.out hB2 (Nat.le_refl _))
  have HD2' := hideIt (cols_below HD1'.out hB2 (Nat.le_refl _))
  have Hb1 := hideIt (byts_below hb1 hB2 (Nat.le_refl _))
  have Hb2 := hideIt hb2
  have hn1 := nameL_length s xs
  clear hb1 hb2
  have Hiff := hideIt (name_iff HP1.out HP2.out)
  have hBB : Below w''.heap.size w'' w2 := hB1.trans (hB2.mono hB1.size)
  have hnm : (nameL (bts s) (lsts xs)).length ≤ maxLen := by unfold maxLen; have := HS.out; omega
  by_cases hst : s = t
  · have hsb : (s.toList == t.toList) = true := by rw [hst]; simp
    have HST := hideIt hst
    clear hst
    go_wp2_with fail
    refine (same_walk a b c d xs ys _ HC2.out HD2'.out hn).mono ?_
    rintro e w3 ⟨⟨b2, rfl, hb2⟩, n2, rfl⟩
    have HB2 := hideIt hb2
    clear hb2
    go_wp2_with fail
    refine (eqb_walk _ _ c1 c2 _ _ (w2.drewN n2) (byts_drewN Hb1.out n2) (byts_drewN Hb2.out n2) hnm).mono ?_
    rintro e w3 ⟨⟨b1, rfl, hb1⟩, n3, rfl⟩
    have he : b1 = b2 := by
      rw [Bool.eq_iff_iff, hb1, HB2.out, Hiff.out]
      exact ⟨fun h => h.2, fun h => ⟨HST.out, h⟩⟩
    subst he
    clear hb1
    go_wp2_with fail
    go_ret
    exact ⟨by simp, below_drewN hBB _⟩
  · have hsb := str_ne hst
    have HST := hideIt hst
    clear hst
    go_wp2_with fail
    refine (eqb_walk _ _ c1 c2 _ _ w2 Hb1.out Hb2.out hnm).mono ?_
    rintro e w3 ⟨⟨b1, rfl, hb1⟩, n3, rfl⟩
    obtain rfl := not_bool hb1 (fun h => HST.out (Hiff.out.1 h).1)
    clear hb1
    go_wp2_with fail
    go_ret
    exact ⟨rfl, below_drewN hBB _⟩
end Go.Proofs.Qxb6614843a
