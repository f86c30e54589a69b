import Derived.Test.Qxb6614843aDec
namespace Go.Proofs.Qxb6614843a
open Go.RowKit

theorem name_reserved (t : List UInt8) (cs : List (List UInt8)) : pre9.isPrefixOf (nameL t cs) = true := by
  obtain ⟨r, hr⟩ := name_pre9 t cs
  rw [hr, List.isPrefixOf_iff_prefix]
  exact List.prefix_append _ _

set_option maxRecDepth 100000 in
set_option maxHeartbeats 2000000 in
theorem back_walk (s : ByteArray) (hs : s.size ≤ maxLen) (a : Option Addr) (c : Nat) (xs : List ByteArray) (w : World) (hC : Cols w a xs) (hn : xs.length ≤ maxLen) (hx : ∀ x ∈ xs, x.size ≤ maxLen) (hc : xs.length ≤ c) :
    Calls Try.prog 5 #[.string s, .slice a xs.length c] w fun e w' => e = .returned (.bool true) ∧ Below w.heap.size w w' := by
  have HX := hideIt hx
  have HC := hideIt hC
  clear hx hC
  go_enter Try.func5, Try.ntmps5
  go_wp2_with fail
  refine (zz16_walk s hs a c xs w HC.out hn HX.out).mono ?_
  rintro e w' ⟨⟨z, rfl, hz⟩, rfl⟩
  cases z
  · clear hz
    go_wp2_with fail
    go_ret
    exact ⟨rfl, Below.refl _ _⟩
  have hsum := hz rfl
  clear hz
  have k1 : s.size ≤ 1048576 := by omega
  have HS := hideIt hsum
  clear hsum
  rcases Nat.lt_or_ge 65536 xs.length with k3 | k3
  · go_wp2_with fail
    go_ret
    exact ⟨rfl, Below.refl _ _⟩
  go_wp2_with fail
  refine (add_walk _ a c xs _ HC.out hn HX.out).mono ?_
  rintro e w'' ⟨⟨t1, ok1, rfl⟩, rfl⟩
  cases ok1
  · go_wp2_with fail
    go_ret
    exact ⟨rfl, Below.refl _ _⟩
  go_wp2_with fail
  refine (doc_walk s hs a c xs _ HC.out hn HX.out).mono ?_
  rintro e w'' ⟨⟨d1, rfl, hd1⟩, rfl⟩
  have HD1 := hideIt hd1
  clear hd1
  cases d1
  · go_wp2_with fail
    go_ret
    exact ⟨rfl, Below.refl _ _⟩
  have HP1 : Hid (docd (bts s) (lsts xs)) := HD1.out.1 rfl
  clear HD1
  go_wp2_with fail
  refine (zzindex_walk s a c xs _ HC.out hc HS.out).mono ?_
  rintro e w1 ⟨g1, c1, rfl, hg1, hk1, hkm1, hb1, hB1⟩
  have Hb1 := hideIt hb1
  clear hb1
  have HC1 := hideIt (cols_below HC.out hB1 (Nat.le_refl _))
  go_wp2_with fail
  refine (zzres_walk _ c1 _ _ Hb1.out hk1).mono ?_
  rintro e w2 ⟨rfl, hB2⟩
  rw [name_reserved]
  have Hb2 := hideIt (byts_below Hb1.out hB2 (Nat.le_refl _))
  have HC2 := hideIt (cols_below HC1.out hB2 (Nat.le_refl _))
  go_wp2_with fail
  refine (dec_walk s xs HP1.out g1 c1 _ Hb2.out hk1 hkm1 HS.out).mono ?_
  rintro e w3 ⟨a3, d3, rfl, hC3, hB3⟩
  have HC3 := hideIt hC3
  have HC3' := hideIt (cols_below HC2.out hB3 (Nat.le_refl _))
  clear hC3
  have hBB : Below w''.heap.size w'' w3 := (hB1.trans (hB2.mono hB1.size)).trans (hB3.mono (Nat.le_trans hB1.size hB2.size))
  go_wp2_with fail
  refine (same_walk a3 a d3 c xs xs _ HC3.out HC3'.out hn).mono ?_
  rintro e w4 ⟨⟨b, rfl, hb⟩, n, rfl⟩
  obtain rfl : b = true := hb.2 rfl
  clear hb
  go_wp2_with fail
  go_ret
  exact ⟨rfl, below_drewN hBB _⟩
end Go.Proofs.Qxb6614843a
