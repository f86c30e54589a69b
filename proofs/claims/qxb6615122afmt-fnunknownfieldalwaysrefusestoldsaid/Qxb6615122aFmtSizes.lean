import Derived.Test.Qxb6615122aFmtRows
import Derived.WalkKit
import Derived.Lib.Join
namespace Go.Proofs.Qxb6615122aFmt
open Go.RowKit

theorem hideIt {p : Prop} (h : p) : Hid p := h
/-- The bytes of a string. -/
abbrev bts (s : ByteArray) : List UInt8 := s.data.toList
theorem size_bts (s : ByteArray) : (bts s).length = s.size := by simp [bts]
/-- What lies behind the address of a slice of strings. -/
def Cols (w : World) (a : Option Addr) (xs : List ByteArray) : Prop :=
  xs = [] ∨ ∃ bk o, a = some ⟨bk, o, none⟩ ∧ bk < w.heap.size ∧ ∀ (j : Nat) x, xs[j]? = some x → w.cell? ⟨bk, o + j, none⟩ = some (.string x)
theorem cols_below {w w' : World} {a : Option Addr} {xs : List ByteArray} {B : Nat} (h : Cols w a xs) (hb : Below B w w') (hB : w.heap.size ≤ B) : Cols w' a xs := by
  rcases h with h | ⟨bk, o, ha, hlt, hc⟩
  · exact .inl h
  · exact .inr ⟨bk, o, ha, Nat.lt_of_lt_of_le hlt hb.size, fun j x hx => (hb.cell (p := ⟨bk, o + j, none⟩) (by show bk < B; omega)).trans (hc j x hx)⟩
theorem getk {xs : List ByteArray} {k : Nat} (h : k < xs.length) : xs[k]? = some xs[k] := List.getElem?_eq_getElem h
/-- The sum of the strings' lengths. -/
def tot (xs : List ByteArray) : Nat := (xs.map (·.size)).sum
theorem tot_snoc {xs : List ByteArray} {k : Nat} (h : k < xs.length) : tot (xs.take (k + 1)) = tot (xs.take k) + xs[k].size := by
  rw [List.take_succ_eq_append_getElem h]
  simp only [tot, List.map_append, List.map_cons, List.map_nil, List.sum_append, List.sum_cons, List.sum_nil, Nat.add_zero]

/-- A bool; if it is true then P. -/
def IfB (P : Prop) (e : Ending) : Prop := ∃ b : Bool, e = .returned (.bool b) ∧ (b = true → P)
theorem ifB_true {P : Prop} (h : P) : IfB P (.returned (.bool true)) := ⟨true, rfl, fun _ => h⟩
theorem ifB_false {P : Prop} : IfB P (.returned (.bool false)) := ⟨false, rfl, fun h => by cases h⟩
/-- Some int. -/
def IsI (e : Ending) : Prop := ∃ t : Int, e = .returned (.int .i64 t)

set_option maxHeartbeats 2000000 in
theorem zz_walk (s t : ByteArray) (hs : s.size ≤ maxLen) (ht : t.size ≤ maxLen) (a : Option Addr) (c : Nat) (xs : List ByteArray) (w : World) (hC : Cols w a xs) (hn : xs.length ≤ maxLen) (hx : ∀ x ∈ xs, x.size ≤ maxLen) :
    Calls Tryf.prog 4 #[.string s, .string t, .slice a xs.length c] w fun e w' => IfB (s.size + t.size + xs.length + tot xs ≤ 1048576) e ∧ w' = w := by
  unfold maxLen at hn hs ht
  have HX := hideIt hx
  have HC := hideIt hC
  clear hx hC
  rcases Nat.lt_or_ge 1048576 (s.size) with h1 | h1
  · go_enter Tryf.func4, Tryf.ntmps4
    go_wp2
    go_ret
    exact ⟨ifB_false, rfl⟩
  rcases Nat.lt_or_ge 1048576 (t.size) with h2 | h2
  · go_enter Tryf.func4, Tryf.ntmps4
    go_wp2
    go_ret
    exact ⟨ifB_false, rfl⟩
  rcases Nat.lt_or_ge 1048576 (s.size + t.size) with h3 | h3
  · go_enter Tryf.func4, Tryf.ntmps4
    go_wp2
    go_ret
    exact ⟨ifB_false, rfl⟩
  rcases Nat.lt_or_ge 1048576 (xs.length) with h4 | h4
  · go_enter Tryf.func4, Tryf.ntmps4
    go_wp2
    go_ret
    exact ⟨ifB_false, rfl⟩
  rcases Nat.lt_or_ge 1048576 (s.size + t.size + xs.length) with h5 | h5
  · go_enter Tryf.func4, Tryf.ntmps4
    go_wp2
    go_ret
    exact ⟨ifB_false, rfl⟩
  go_enter Tryf.func4, Tryf.ntmps4
  go_wp2
  go_loop [7, 8] (fun z i => ∃ (k u : Nat), k ≤ xs.length ∧ i = .int .i64 k ∧ z = .int .i64 u ∧ u ≤ 1048576 ∧ Hid (u = s.size + t.size + xs.length + tot (xs.take k))) (fun _ i => xs.length - (intOf i).toNat)
  case atStart => exact ⟨0, s.size + t.size + xs.length, Nat.zero_le _, rfl, by go_num, h5, by show _ = _; simp [tot]⟩
  case round =>
    obtain ⟨k, u, hk, rfl, rfl, hu, H⟩ := hrel
    by_cases hlt : k < xs.length
    · rcases HC.out with h0 | ⟨bk, o, rfl, hb, hcell⟩
      · rw [h0] at hlt; simp at hlt
      · have hc := hcell k _ (getk hlt)
        have hsz : xs[k].size ≤ 2 ^ 63 - 1 := HX.out _ (List.getElem_mem hlt)
        clear hcell
        have H' : Hid (u + xs[k].size = s.size + t.size + xs.length + tot (xs.take (k + 1))) := by
          show _ = _
          rw [tot_snoc hlt, H.out]; omega
        rcases Nat.lt_or_ge 1048576 (xs[k].size) with g1 | g1
        · go_wp2
          go_ret
          exact ⟨ifB_false, rfl⟩
        rcases Nat.lt_or_ge 1048576 (u + xs[k].size) with g2 | g2
        · go_wp2
          go_ret
          exact ⟨ifB_false, rfl⟩
        go_wp2
        go_round
        case rel => exact ⟨k + 1, u + xs[k].size, by omega, by go_num, by go_num, g2, H'⟩
        case measure => simp [intOf]; omega
    · have hres : Hid (s.size + t.size + xs.length + tot xs ≤ 1048576) := by
        have := H.out
        rw [List.take_of_length_le (by omega)] at this
        show _ ≤ _
        omega
      go_wp2
      go_ret
      exact ⟨ifB_true hres.out, rfl⟩

set_option maxHeartbeats 1000000 in
theorem budget_walk (t : Int) (a : Option Addr) (c : Nat) (xs : List ByteArray) (w : World) (hC : Cols w a xs) (hn : xs.length ≤ maxLen) (hx : ∀ x ∈ xs, x.size ≤ maxLen) :
    Calls Tryf.prog 5 #[.int .i64 t, .slice a xs.length c] w fun e w' => IsI e ∧ w' = w := by
  unfold maxLen at hn
  have HX := hideIt hx
  have HC := hideIt hC
  clear hx hC
  go_enter Tryf.func5, Tryf.ntmps5
  go_wp2
  go_loop [0, 5] (fun z i => ∃ (k : Nat) (u : Int), k ≤ xs.length ∧ i = .int .i64 k ∧ z = .int .i64 u) (fun _ i => xs.length - (intOf i).toNat)
  case atStart => exact ⟨0, _, Nat.zero_le _, rfl, rfl⟩
  case round =>
    obtain ⟨k, u, hk, rfl, rfl⟩ := hrel
    by_cases hlt : k < xs.length
    · rcases HC.out with h0 | ⟨bk, o, rfl, hb, hcell⟩
      · rw [h0] at hlt; simp at hlt
      · have hc := hcell k _ (getk hlt)
        have hsz : xs[k].size ≤ 2 ^ 63 - 1 := HX.out _ (List.getElem_mem hlt)
        clear hcell
        go_wp2
        · go_ret
          exact ⟨⟨_, rfl⟩, rfl⟩
        · go_ret
          exact ⟨⟨_, rfl⟩, rfl⟩
        · go_round
          case rel => exact ⟨k + 1, _, by omega, by go_num, rfl⟩
          case measure => simp [intOf]; omega
    · go_wp2
      go_ret
      exact ⟨⟨_, rfl⟩, rfl⟩

/-- A string of at most n bytes. -/
def ShortS (n : Nat) (e : Ending) : Prop := ∃ s : ByteArray, e = .returned (.string s) ∧ s.size ≤ n

set_option maxHeartbeats 1000000 in
theorem joinp_walk (s t : ByteArray) (hs : s.size + t.size ≤ 1048576) (w : World) :
    Calls Tryf.prog 9 #[.string s, .string t] w fun e w' => ShortS 1048577 e ∧ w' = w := by
  go_enter Tryf.func9, Tryf.ntmps9
  go_wp2
  all_goals
    go_ret
    refine ⟨⟨_, rfl, ?_⟩, rfl⟩
    have h1 : ({ data := #[46] } : ByteArray).size = 1 := rfl
    first
      | omega
      | (simp only [ByteArray.size_append]; omega)
end Go.Proofs.Qxb6615122aFmt
