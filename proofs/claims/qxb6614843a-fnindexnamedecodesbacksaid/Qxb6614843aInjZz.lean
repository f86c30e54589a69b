import Derived.Test.Qxb6614843aNames
namespace Go.Proofs.Qxb6614843a
open Go.RowKit

set_option maxHeartbeats 2000000 in
theorem zz8_walk (s : ByteArray) (hs : s.size ≤ maxLen) (a : Option Addr) (c : Nat) (xs : List ByteArray) (t : ByteArray) (ht : t.size ≤ maxLen) (b : Option Addr) (d : Nat) (ys : List ByteArray) (w : World) (hC : Cols w a xs) (hn : xs.length ≤ maxLen) (hx : ∀ x ∈ xs, x.size ≤ maxLen) (hD : Cols w b ys) (hm : ys.length ≤ maxLen) (hy : ∀ x ∈ ys, x.size ≤ maxLen) :
    Calls Try.prog 8 #[.string s, .slice a xs.length c, .string t, .slice b ys.length d] w fun e w' => IfB (s.size + xs.length + tot xs + t.size + ys.length + tot ys ≤ 1048576) e ∧ w' = w := by
  unfold maxLen at hn hs hm ht
  have HX := hideIt hx
  have HC := hideIt hC
  have HY := hideIt hy
  have HD := hideIt hD
  clear hx hC hy hD
  rcases Nat.lt_or_ge 1048576 (s.size) with h1 | h1
  · go_enter Try.func8, Try.ntmps8
    go_wp2
    go_ret
    exact ⟨ifB_false, rfl⟩
  rcases Nat.lt_or_ge 1048576 (xs.length) with h2 | h2
  · go_enter Try.func8, Try.ntmps8
    go_wp2
    go_ret
    exact ⟨ifB_false, rfl⟩
  rcases Nat.lt_or_ge 1048576 (s.size + xs.length) with h3 | h3
  · go_enter Try.func8, Try.ntmps8
    go_wp2
    go_ret
    exact ⟨ifB_false, rfl⟩
  go_enter Try.func8, Try.ntmps8
  go_wp2
  go_loop [9, 10] (fun z i => ∃ (k u : Nat), k ≤ xs.length ∧ i = .int .i64 k ∧ z = .int .i64 u ∧ u ≤ 1048576 ∧ Hid (u = s.size + xs.length + tot (xs.take k))) (fun _ i => xs.length - (intOf i).toNat)
  case atStart => exact ⟨0, s.size + xs.length, Nat.zero_le _, rfl, by go_num, h3, by show _ = _; simp [tot]⟩
  case round =>
    obtain ⟨k, u, hk, rfl, rfl, hu, H⟩ := hrel
    by_cases hlt : k < xs.length
    · rcases HC.out with h0 | ⟨bk, o, rfl, hb, hcell⟩
      · rw [h0] at hlt; simp at hlt
      · have hc := hcell k _ (getk hlt)
        have hsz : xs[k].size ≤ 2 ^ 63 - 1 := HX.out _ (List.getElem_mem hlt)
        clear hcell
        have H' : Hid (u + xs[k].size = s.size + xs.length + tot (xs.take (k + 1))) := by
          show _ = _
          rw [tot_snoc hlt, H.out]; omega
        rcases Nat.lt_or_ge 1048576 (xs[k].size) with g1 | g1
        · go_wp2
          go_ret
          exact ⟨ifB_false, rfl⟩
        rcases Nat.lt_or_ge 1048576 (u + xs[k].size) with g2 | g2
        · go_wp2
          go_ret
          exact ⟨ifB_false, rfl⟩
        go_wp2
        go_round
        case rel => exact ⟨k + 1, u + xs[k].size, by omega, by go_num, by go_num, g2, H'⟩
        case measure => simp [intOf]; omega
    · have Hu : Hid (u = s.size + xs.length + tot xs) := by
        have := H.out
        rw [List.take_of_length_le (by omega)] at this
        exact this
      clear H
      rcases Nat.lt_or_ge 1048576 (t.size) with g1 | g1
      · go_wp2
        go_ret
        exact ⟨ifB_false, rfl⟩
      rcases Nat.lt_or_ge 1048576 (u + t.size) with g2 | g2
      · go_wp2
        go_ret
        exact ⟨ifB_false, rfl⟩
      rcases Nat.lt_or_ge 1048576 (ys.length) with g3 | g3
      · go_wp2
        go_ret
        exact ⟨ifB_false, rfl⟩
      rcases Nat.lt_or_ge 1048576 (u + t.size + ys.length) with g4 | g4
      · go_wp2
        go_ret
        exact ⟨ifB_false, rfl⟩
      go_wp2
      go_loop [9, 11] (fun z i => ∃ (k v : Nat), k ≤ ys.length ∧ i = .int .i64 k ∧ z = .int .i64 v ∧ v ≤ 1048576 ∧ Hid (v = u + t.size + ys.length + tot (ys.take k))) (fun _ i => ys.length - (intOf i).toNat)
      case atStart => exact ⟨0, u + t.size + ys.length, Nat.zero_le _, rfl, by go_num, g4, by show _ = _; simp [tot]⟩
      case round =>
        obtain ⟨k', v, hk', rfl, rfl, hv, H⟩ := hrel
        by_cases hlt' : k' < ys.length
        · rcases HD.out with h0 | ⟨bk, o, rfl, hb, hcell⟩
          · rw [h0] at hlt'; simp at hlt'
          · have hc := hcell k' _ (getk hlt')
            have hsz : ys[k'].size ≤ 2 ^ 63 - 1 := HY.out _ (List.getElem_mem hlt')
            clear hcell
            have H' : Hid (v + ys[k'].size = u + t.size + ys.length + tot (ys.take (k' + 1))) := by
              show _ = _
              rw [tot_snoc hlt', H.out]; omega
            rcases Nat.lt_or_ge 1048576 (ys[k'].size) with g1 | g1
            · go_wp2
              go_ret
              exact ⟨ifB_false, rfl⟩
            rcases Nat.lt_or_ge 1048576 (v + ys[k'].size) with g2 | g2
            · go_wp2
              go_ret
              exact ⟨ifB_false, rfl⟩
            go_wp2
            go_round
            case rel => exact ⟨k' + 1, v + ys[k'].size, by omega, by go_num, by go_num, g2, H'⟩
            case measure => simp [intOf]; omega
        · have hres : Hid (s.size + xs.length + tot xs + t.size + ys.length + tot ys ≤ 1048576) := by
            have h1 := H.out
            have h2 := Hu.out
            rw [List.take_of_length_le (by omega)] at h1
            show _ ≤ _
            omega
          go_wp2
          go_ret
          exact ⟨ifB_true hres.out, rfl⟩
end Go.Proofs.Qxb6614843a
