import Derived.Test.Qxb6614523aDoorDec
import Derived.Test.Qxb6614523aDoorCompare
namespace Go.Proofs.Qxb6614523aDoor
open Go.RowKit

theorem by4_0 (v : Nat) (hv : v < 4294967296) : by4 v 0 = ((v / 16777216 : Nat) : Int) := by
  simp [by4, Lib.beBytes, Lib.leBytes]; omega
theorem by4_1 (v : Nat) : by4 v 1 = ((v / 65536 % 256 : Nat) : Int) := by
  simp [by4, Lib.beBytes, Lib.leBytes]; omega
theorem by4_2 (v : Nat) : by4 v 2 = ((v / 256 % 256 : Nat) : Int) := by
  simp [by4, Lib.beBytes, Lib.leBytes]
theorem by4_3 (v : Nat) : by4 v 3 = ((v % 256 : Nat) : Int) := by
  simp [by4, Lib.beBytes, Lib.leBytes]

theorem lex_lt (a b : Nat) (ha : a < 4294967296) (hb : b < 4294967296) (h : a < b) : lex (by4 a) (by4 b) 4 0 = -1 := by
  simp only [lex, by4_0 a ha, by4_0 b hb, by4_1, by4_2, by4_3, Nat.zero_add, Nat.reduceAdd]
  repeat' split
  all_goals first | rfl | omega
theorem lex_gt (a b : Nat) (ha : a < 4294967296) (hb : b < 4294967296) (h : b < a) : lex (by4 a) (by4 b) 4 0 = 1 := by
  simp only [lex, by4_0 a ha, by4_0 b hb, by4_1, by4_2, by4_3, Nat.zero_add, Nat.reduceAdd]
  repeat' split
  all_goals first | rfl | omega
theorem lex_eq (a : Nat) : lex (by4 a) (by4 a) 4 0 = 0 := by
  simp [lex]

/-- The numeric order. -/
def num (a b : Nat) : Int := if a < b then -1 else if b < a then 1 else 0
theorem lex_num (a b : Nat) (ha : a < 4294967296) (hb : b < 4294967296) : lex (by4 a) (by4 b) 4 0 = num a b := by
  unfold num
  split
  · exact lex_lt a b ha hb (by assumption)
  · split
    · exact lex_gt a b ha hb (by assumption)
    · obtain rfl : a = b := by omega
      exact lex_eq a

theorem join4 {w w1 w2 w3 w4 : World} {n : Nat} (h1 : Below w.heap.size w w1) (h2 : Below w1.heap.size w1 w2) (h3 : Below (w2.drewN n).heap.size (w2.drewN n) w3) (h4 : Below w3.heap.size w3 w4) : Below w.heap.size w w4 := by
  have s1 := h1.size
  have s2 := h2.size
  have s3 : w2.heap.size ≤ w3.heap.size := h3.size
  exact ((h1.trans (below_drewN (h2.mono s1) n)).trans (h3.mono (show w.heap.size ≤ w2.heap.size by omega))).trans (h4.mono (by omega))

set_option maxHeartbeats 1000000 in
theorem law_lt (a b : Nat) (ha : a < 4294967296) (hb : b < 4294967296) (h : a < b) (w : World) :
    Calls Tryd.prog 3 #[.int .u32 a, .int .u32 b] w fun e w' => e = .returned (.bool true) ∧ Below w.heap.size w w' := by
  go_enter Tryd.func3, Tryd.ntmps3
  go_wp2_with fail
  refine (zzenc_walk a ha _).mono ?_
  rintro e w1 ⟨ga, ca, rfl, hga, h4a, hca, hcam, hB1⟩
  go_wp2_with fail
  refine (zzenc_walk b hb _).mono ?_
  rintro e w2 ⟨gb, cb, rfl, hgb, h4b, hcb, hcbm, hB2⟩
  have h4a' := has4_below h4a hB2 (has4_lt h4a)
  go_wp2_with fail
  refine (compare_walk ga ca gb cb (by4 a) (by4 b) _ h4a' h4b).mono ?_
  rintro e w3 ⟨rfl, n, rfl⟩
  rw [lex_lt a b ha hb h]
  go_wp2_with fail
  refine (zzdec_walk ga ca a ha (w2.drewN n) hca hcam h4a').mono ?_
  rintro e w3 ⟨x, k, rfl, hB3⟩
  have h4b' := has4_below (w := w2.drewN n) h4b hB3 (has4_lt h4b)
  go_wp2_with fail
  refine (zzdec_walk gb cb b hb _ hcb hcbm h4b').mono ?_
  rintro e w4 ⟨x', k', rfl, hB4⟩
  go_wp2_with fail
  go_ret
  exact ⟨rfl, join4 hB1 hB2 hB3 hB4⟩

set_option maxHeartbeats 1000000 in
theorem law_gt (a b : Nat) (ha : a < 4294967296) (hb : b < 4294967296) (h : b < a) (w : World) :
    Calls Tryd.prog 3 #[.int .u32 a, .int .u32 b] w fun e w' => e = .returned (.bool true) ∧ Below w.heap.size w w' := by
  go_enter Tryd.func3, Tryd.ntmps3
  go_wp2_with fail
  refine (zzenc_walk a ha _).mono ?_
  rintro e w1 ⟨ga, ca, rfl, hga, h4a, hca, hcam, hB1⟩
  go_wp2_with fail
  refine (zzenc_walk b hb _).mono ?_
  rintro e w2 ⟨gb, cb, rfl, hgb, h4b, hcb, hcbm, hB2⟩
  have h4a' := has4_below h4a hB2 (has4_lt h4a)
  go_wp2_with fail
  refine (compare_walk ga ca gb cb (by4 a) (by4 b) _ h4a' h4b).mono ?_
  rintro e w3 ⟨rfl, n, rfl⟩
  rw [lex_gt a b ha hb h]
  go_wp2_with fail
  refine (zzdec_walk ga ca a ha (w2.drewN n) hca hcam h4a').mono ?_
  rintro e w3 ⟨x, k, rfl, hB3⟩
  have h4b' := has4_below (w := w2.drewN n) h4b hB3 (has4_lt h4b)
  go_wp2_with fail
  refine (zzdec_walk gb cb b hb _ hcb hcbm h4b').mono ?_
  rintro e w4 ⟨x', k', rfl, hB4⟩
  go_wp2_with fail
  go_ret
  exact ⟨rfl, join4 hB1 hB2 hB3 hB4⟩

set_option maxHeartbeats 1000000 in
theorem law_eq (a b : Nat) (ha : a < 4294967296) (hb : b < 4294967296) (h : a = b) (w : World) :
    Calls Tryd.prog 3 #[.int .u32 a, .int .u32 b] w fun e w' => e = .returned (.bool true) ∧ Below w.heap.size w w' := by
  have h1 : ¬ a < b := by omega
  have h2 : ¬ b < a := by omega
  have H := hideIt h
  clear h
  go_enter Tryd.func3, Tryd.ntmps3
  go_wp2_with fail
  refine (zzenc_walk a ha _).mono ?_
  rintro e w1 ⟨ga, ca, rfl, hga, h4a, hca, hcam, hB1⟩
  go_wp2_with fail
  refine (zzenc_walk b hb _).mono ?_
  rintro e w2 ⟨gb, cb, rfl, hgb, h4b, hcb, hcbm, hB2⟩
  have h4a' := has4_below h4a hB2 (has4_lt h4a)
  go_wp2_with fail
  refine (compare_walk ga ca gb cb (by4 a) (by4 b) _ h4a' h4b).mono ?_
  rintro e w3 ⟨rfl, n, rfl⟩
  rw [lex_num a b ha hb, show num a b = 0 from by simp [num, h1, h2]]
  go_wp2_with fail
  refine (zzdec_walk ga ca a ha (w2.drewN n) hca hcam h4a').mono ?_
  rintro e w3 ⟨x, k, rfl, hB3⟩
  have h4b' := has4_below (w := w2.drewN n) h4b hB3 (has4_lt h4b)
  go_wp2_with fail
  refine (zzdec_walk gb cb b hb _ hcb hcbm h4b').mono ?_
  rintro e w4 ⟨x', k', rfl, hB4⟩
  go_wp2_with fail
  go_ret
  exact ⟨rfl, join4 hB1 hB2 hB3 hB4⟩


theorem law_walk (a b : Nat) (ha : a < 4294967296) (hb : b < 4294967296) (w : World) :
    Calls Tryd.prog 3 #[.int .u32 a, .int .u32 b] w fun e w' => e = .returned (.bool true) ∧ Below w.heap.size w w' := by
  rcases Nat.lt_trichotomy a b with h | h | h
  · exact law_lt a b ha hb h w
  · exact law_eq a b ha hb h w
  · exact law_gt a b ha hb h w
end Go.Proofs.Qxb6614523aDoor
