import Derived.Test.Qxb6614843aRows
import Derived.Test.Qxb6614843aPlain
import Derived.WalkKit
import Derived.Deep.QuietTactic
import Derived.BigQuiet
namespace Go.Proofs.Qxb6614843a
open Go.RowKit

theorem hideIt {p : Prop} (h : p) : Hid p := h
/-- The bytes of a string. -/
abbrev bts (s : ByteArray) : List UInt8 := s.data.toList
theorem take_snoc (s : ByteArray) (k : Nat) (h : k < s.size) : (bts s).take (k + 1) = (bts s).take k ++ [s[k]] := by
  rw [bts, List.take_succ_eq_append_getElem (by simpa using h)]; rfl

/-- What lies behind the address of a slice of strings. -/
def Cols (w : World) (a : Option Addr) (xs : List ByteArray) : Prop :=
  xs = [] ∨ ∃ bk o, a = some ⟨bk, o, none⟩ ∧ bk < w.heap.size ∧ ∀ (j : Nat) x, xs[j]? = some x → w.cell? ⟨bk, o + j, none⟩ = some (.string x)

/-- A bool that answers whether P. -/
def IsB (P : Prop) (e : Ending) : Prop := ∃ b : Bool, e = .returned (.bool b) ∧ (b = true ↔ P)
theorem isB_true {P : Prop} (h : P) : IsB P (.returned (.bool true)) := ⟨true, rfl, by simp [h]⟩
theorem isB_false {P : Prop} (h : ¬ P) : IsB P (.returned (.bool false)) := ⟨false, rfl, by simp [h]⟩

theorem mem_bts (s : ByteArray) (k : Nat) (h : k < s.size) : s[k] ∈ bts s := by
  have : s[k] = (bts s)[k]'(by simpa using h) := rfl
  rw [this]; exact List.getElem_mem _
theorem not_plain {s : ByteArray} {k : Nat} (h : k < s.size) (hc : (s[k].toNat : Int) = 46 ∨ (s[k].toNat : Int) = 44) : ¬ plainL (bts s) := by
  intro hp
  have := hp _ (mem_bts s k h)
  rcases hc with hc | hc
  · exact this.1 (UInt8.toNat_inj.1 (by simpa using Int.ofNat_inj.1 hc))
  · exact this.2 (UInt8.toNat_inj.1 (by simpa using Int.ofNat_inj.1 hc))
theorem plain_succ {s : ByteArray} {k : Nat} (h : k < s.size) (hp : plainL ((bts s).take k)) (h1 : ¬ (s[k].toNat : Int) = 46) (h2 : ¬ (s[k].toNat : Int) = 44) : plainL ((bts s).take (k + 1)) := by
  rw [take_snoc s k h]
  intro c hc
  rcases List.mem_append.1 hc with hc | hc
  · exact hp c hc
  · obtain rfl := List.mem_singleton.1 hc
    exact ⟨fun e => h1 (by rw [e]; rfl), fun e => h2 (by rw [e]; rfl)⟩

set_option maxHeartbeats 1000000 in
theorem plain_walk (s : ByteArray) (hs : s.size ≤ maxLen) (w : World) :
    Calls Try.prog 28 #[.string s] w fun e w' => IsB (plainL (bts s)) e ∧ w' = w := by
  unfold maxLen at hs
  go_enter Try.func28, Try.ntmps28
  go_wp2
  go_loop [3] (fun i => ∃ k : Nat, k ≤ s.size ∧ i = .int .i64 k ∧ Hid (plainL ((bts s).take k))) (fun i => s.size - (intOf i).toNat)
  case atStart => exact ⟨0, Nat.zero_le _, rfl, by intro c hc; simp at hc⟩
  case round =>
    obtain ⟨k, hk, rfl, hp⟩ := hrel
    by_cases hlt : k < s.size
    · by_cases h1 : (s[k].toNat : Int) = 46
      · have hres := hideIt (not_plain hlt (.inl h1))
        have h1b : ((s[k].toNat : Int) == 46) = true := by simp [h1]
        have H1 := hideIt h1
        clear h1
        go_wp2
        go_ret
        exact ⟨isB_false hres.out, rfl⟩
      · by_cases h2 : (s[k].toNat : Int) = 44
        · have hres := hideIt (not_plain hlt (.inr h2))
          have h1b : ((s[k].toNat : Int) == 46) = false := by simp [h1]
          have h2b : ((s[k].toNat : Int) == 44) = true := by simp [h2]
          have H1 := hideIt h1
          have H2 := hideIt h2
          clear h1 h2
          go_wp2
          go_ret
          exact ⟨isB_false hres.out, rfl⟩
        · have hres := hideIt (plain_succ hlt hp.out h1 h2)
          have h1b : ((s[k].toNat : Int) == 46) = false := by simp [h1]
          have h2b : ((s[k].toNat : Int) == 44) = false := by simp [h2]
          have H1 := hideIt h1
          have H2 := hideIt h2
          clear h1 h2
          go_wp2
          go_round
          case rel => exact ⟨k + 1, by omega, by go_num, hres⟩
          case measure => simp [intOf]; omega
    · have hres : Hid (plainL (bts s)) := by
        have := hp.out
        rwa [List.take_of_length_le (by simp; omega)] at this
      go_wp2
      go_ret
      exact ⟨isB_true hres.out, rfl⟩

/-- The columns as lists of bytes. -/
abbrev lsts (xs : List ByteArray) : List (List UInt8) := xs.map bts
theorem size_bts (s : ByteArray) : (bts s).length = s.size := by simp [bts]
theorem getk {xs : List ByteArray} {k : Nat} (h : k < xs.length) : xs[k]? = some xs[k] := List.getElem?_eq_getElem h

/-- Some int and some bool. -/
def IsIB (e : Ending) : Prop := ∃ (t : Int) (b : Bool), e = .returned (.tuple #[.int .i64 t, .bool b])

set_option maxHeartbeats 1000000 in
theorem add_walk (t : Int) (a : Option Addr) (c : Nat) (xs : List ByteArray) (w : World) (hC : Cols w a xs) (hn : xs.length ≤ maxLen) (hx : ∀ x ∈ xs, x.size ≤ maxLen) :
    Calls Try.prog 9 #[.int .i64 t, .slice a xs.length c] w fun e w' => IsIB e ∧ w' = w := by
  unfold maxLen at hn
  have HX := hideIt hx
  have HC := hideIt hC
  clear hx hC
  go_enter Try.func9, Try.ntmps9
  go_wp2
  · go_ret2
    exact ⟨⟨_, _, rfl⟩, rfl⟩
  · go_ret2
    exact ⟨⟨_, _, rfl⟩, rfl⟩
  · go_loop [0, 6] (fun z i => ∃ (k : Nat) (u : Int), k ≤ xs.length ∧ i = .int .i64 k ∧ z = .int .i64 u) (fun _ i => xs.length - (intOf i).toNat)
    case atStart => exact ⟨0, _, Nat.zero_le _, rfl, rfl⟩
    case round =>
      obtain ⟨k, u, hk, rfl, rfl⟩ := hrel
      by_cases hlt : k < xs.length
      · rcases HC.out with h0 | ⟨bk, o, rfl, hb, hcell⟩
        · rw [h0] at hlt; simp at hlt
        · have hc := hcell k _ (getk hlt)
          have hsz : xs[k].size ≤ 2 ^ 63 - 1 := HX.out _ (List.getElem_mem hlt)
          clear hcell
          go_wp2
          · go_ret2
            exact ⟨⟨_, _, rfl⟩, rfl⟩
          · go_round
            case rel => exact ⟨k + 1, _, by omega, by go_num, rfl⟩
            case measure => simp [intOf]; omega
      · go_wp2
        go_ret2
        exact ⟨⟨_, _, rfl⟩, rfl⟩

/-- The sum of the columns' lengths. -/
def tot (xs : List ByteArray) : Nat := (xs.map (·.size)).sum
theorem tot_snoc {xs : List ByteArray} {k : Nat} (h : k < xs.length) : tot (xs.take (k + 1)) = tot (xs.take k) + xs[k].size := by
  rw [List.take_succ_eq_append_getElem h]
  simp only [tot, List.map_append, List.map_cons, List.map_nil, List.sum_append, List.sum_cons, List.sum_nil, Nat.add_zero]

/-- A bool; if it is true then P. -/
def IfB (P : Prop) (e : Ending) : Prop := ∃ b : Bool, e = .returned (.bool b) ∧ (b = true → P)
theorem ifB_true {P : Prop} (h : P) : IfB P (.returned (.bool true)) := ⟨true, rfl, fun _ => h⟩
theorem ifB_false {P : Prop} : IfB P (.returned (.bool false)) := ⟨false, rfl, fun h => by cases h⟩

set_option maxHeartbeats 1000000 in
theorem zz16_walk (s : ByteArray) (hs : s.size ≤ maxLen) (a : Option Addr) (c : Nat) (xs : List ByteArray) (w : World) (hC : Cols w a xs) (hn : xs.length ≤ maxLen) (hx : ∀ x ∈ xs, x.size ≤ maxLen) :
    Calls Try.prog 16 #[.string s, .slice a xs.length c] w fun e w' => IfB (s.size + xs.length + tot xs ≤ 1048576) e ∧ w' = w := by
  unfold maxLen at hn hs
  have HX := hideIt hx
  have HC := hideIt hC
  clear hx hC
  rcases Nat.lt_or_ge 1048576 (s.size) with h1 | h1
  · go_enter Try.func16, Try.ntmps16
    go_wp2
    go_ret
    exact ⟨ifB_false, rfl⟩
  rcases Nat.lt_or_ge 1048576 (xs.length) with h2 | h2
  · go_enter Try.func16, Try.ntmps16
    go_wp2
    go_ret
    exact ⟨ifB_false, rfl⟩
  rcases Nat.lt_or_ge 1048576 (s.size + xs.length) with h3 | h3
  · go_enter Try.func16, Try.ntmps16
    go_wp2
    go_ret
    exact ⟨ifB_false, rfl⟩
  go_enter Try.func16, Try.ntmps16
  go_wp2
  go_loop [5, 6] (fun z i => ∃ (k u : Nat), k ≤ xs.length ∧ i = .int .i64 k ∧ z = .int .i64 u ∧ u ≤ 1048576 ∧ Hid (u = s.size + xs.length + tot (xs.take k))) (fun _ i => xs.length - (intOf i).toNat)
  case atStart => exact ⟨0, s.size + xs.length, Nat.zero_le _, rfl, by go_num, h3, by show _ = _; simp [tot]⟩
  case round =>
    obtain ⟨k, u, hk, rfl, rfl, hu, H⟩ := hrel
    by_cases hlt : k < xs.length
    · rcases HC.out with h0 | ⟨bk, o, rfl, hb, hcell⟩
      · rw [h0] at hlt; simp at hlt
      · have hc := hcell k _ (getk hlt)
        have hsz : xs[k].size ≤ 2 ^ 63 - 1 := HX.out _ (List.getElem_mem hlt)
        clear hcell
        have H' : Hid (u + xs[k].size = s.size + xs.length + tot (xs.take (k + 1))) := by
          show _ = _
          rw [tot_snoc hlt, H.out]; omega
        rcases Nat.lt_or_ge 1048576 (xs[k].size) with g1 | g1
        · go_wp2
          go_ret
          exact ⟨ifB_false, rfl⟩
        rcases Nat.lt_or_ge 1048576 (u + xs[k].size) with g2 | g2
        · go_wp2
          go_ret
          exact ⟨ifB_false, rfl⟩
        go_wp2
        go_round
        case rel => exact ⟨k + 1, u + xs[k].size, by omega, by go_num, by go_num, g2, H'⟩
        case measure => simp [intOf]; omega
    · have hres : Hid (s.size + xs.length + tot xs ≤ 1048576) := by
        have := H.out
        rw [List.take_of_length_le (by omega)] at this
        show _ ≤ _
        omega
      go_wp2
      go_ret
      exact ⟨ifB_true hres.out, rfl⟩
end Go.Proofs.Qxb6614843a
