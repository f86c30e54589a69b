import Derived.Test.Qxb6614843aNames
namespace Go.Proofs.Qxb6614843a
open Go.RowKit

/-- The documented rule, of the columns' strings. -/
def docCols (xs : List ByteArray) : Prop := ∀ c ∈ lsts xs, c ≠ [] ∧ plainL c
theorem docCols_not {xs : List ByteArray} {k : Nat} (h : k < xs.length) (hc : xs[k].size = 0 ∨ ¬ plainL (bts xs[k])) : ¬ docCols xs := by
  intro hd
  have := hd (bts xs[k]) (List.mem_map.2 ⟨_, List.getElem_mem h, rfl⟩)
  rcases hc with hc | hc
  · exact this.1 (List.eq_nil_of_length_eq_zero (by rw [size_bts]; exact hc))
  · exact hc this.2
theorem docCols_succ {xs : List ByteArray} {k : Nat} (h : k < xs.length) (hd : docCols (xs.take k)) (h1 : ¬ xs[k].size = 0) (h2 : plainL (bts xs[k])) : docCols (xs.take (k + 1)) := by
  rw [List.take_succ_eq_append_getElem h]
  intro c hc
  simp only [lsts, List.map_append, List.map_cons, List.map_nil] at hc
  rcases List.mem_append.1 hc with hc | hc
  · exact hd c hc
  · obtain rfl := List.mem_singleton.1 hc
    refine ⟨fun e => h1 ?_, h2⟩
    rw [← size_bts, e]; rfl

set_option maxHeartbeats 1000000 in
theorem doc_walk (s : ByteArray) (hs : s.size ≤ maxLen) (a : Option Addr) (c : Nat) (xs : List ByteArray) (w : World) (hC : Cols w a xs) (hn : xs.length ≤ maxLen) (hx : ∀ x ∈ xs, x.size ≤ maxLen) :
    Calls Try.prog 10 #[.string s, .slice a xs.length c] w fun e w' => IsB (docd (bts s) (lsts xs)) e ∧ w' = w := by
  unfold maxLen at hn
  have HX := hideIt hx
  have HC := hideIt hC
  clear hx hC
  go_enter Try.func10, Try.ntmps10
  go_wp2_with fail
  refine (plain_walk s hs _).mono ?_
  rintro e w' ⟨⟨b, rfl, hb⟩, rfl⟩
  have HB := hideIt hb
  clear hb
  cases b
  · have hres : Hid (¬ docd (bts s) (lsts xs)) := fun h => by have := HB.out.2 h.1; cases this
    go_wp2_with fail
    go_ret
    exact ⟨isB_false hres.out, rfl⟩
  · have hp : Hid (plainL (bts s)) := HB.out.1 rfl
    clear HB
    go_wp2_with fail
    go_loop [5] (fun i => ∃ (k : Nat), k ≤ xs.length ∧ i = .int .i64 k ∧ Hid (docCols (xs.take k))) (fun i => xs.length - (intOf i).toNat)
    case atStart => exact ⟨0, Nat.zero_le _, rfl, by intro c hc; simp at hc⟩
    case round =>
      obtain ⟨k, hk, rfl, H⟩ := hrel
      by_cases hlt : k < xs.length
      · rcases HC.out with h0 | ⟨bk, o, rfl, hb, hcell⟩
        · rw [h0] at hlt; simp at hlt
        · have hc := hcell k _ (getk hlt)
          have hsz : xs[k].size ≤ 2 ^ 63 - 1 := HX.out _ (List.getElem_mem hlt)
          clear hcell
          by_cases h1 : xs[k].size = 0
          · have hres : Hid (¬ docd (bts s) (lsts xs)) := fun h => docCols_not hlt (.inl h1) h.2
            have h1b : ((xs[k].size : Int) == 0) = true := by simp [h1]
            clear h1
            go_wp2_with fail
            go_ret
            exact ⟨isB_false hres.out, rfl⟩
          · have h1b : ((xs[k].size : Int) == 0) = false := by simp [h1]
            have H1 := hideIt h1
            clear h1
            go_wp2_with fail
            refine (plain_walk xs[k] hsz _).mono ?_
            rintro e w' ⟨⟨b, rfl, hbb⟩, rfl⟩
            have HBB := hideIt hbb
            clear hbb
            cases b
            · have hres : Hid (¬ docd (bts s) (lsts xs)) := fun h => docCols_not hlt (.inr (fun hp => by have := HBB.out.2 hp; cases this)) h.2
              go_wp2_with fail
              go_ret
              exact ⟨isB_false hres.out, rfl⟩
            · have hres := hideIt (docCols_succ hlt H.out H1.out (HBB.out.1 rfl))
              clear HBB
              go_wp2_with fail
              go_round
              case rel => exact ⟨k + 1, by omega, by go_num, hres⟩
              case measure => simp [intOf]; omega
      · have hres : Hid (docd (bts s) (lsts xs)) := by
          have := H.out
          rw [List.take_of_length_le (by omega)] at this
          exact ⟨hp.out, this⟩
        go_wp2_with fail
        go_ret
        exact ⟨isB_true hres.out, rfl⟩

theorem take_ne {α : Type} {xs ys : List α} {k : Nat} (h : k < xs.length) (h' : k < ys.length) (hne : xs[k] ≠ ys[k]) : xs ≠ ys := by
  rintro rfl; exact hne rfl
theorem take_eq_succ {α : Type} {xs ys : List α} {k : Nat} (h : k < xs.length) (h' : k < ys.length) (ht : xs.take k = ys.take k) (he : xs[k] = ys[k]) : xs.take (k + 1) = ys.take (k + 1) := by
  rw [List.take_succ_eq_append_getElem h, List.take_succ_eq_append_getElem h', ht, he]
theorem take_all_eq {α : Type} {xs ys : List α} {k : Nat} (hl : xs.length = ys.length) (hk : xs.length ≤ k) (ht : xs.take k = ys.take k) : xs = ys := by
  rwa [List.take_of_length_le hk, List.take_of_length_le (by omega)] at ht

theorem str_ne {x y : ByteArray} (h : x ≠ y) : (x.toList == y.toList) = false := by
  rw [beq_eq_false_iff_ne, ByteArray.toList_eq, ByteArray.toList_eq]
  exact fun e => h (WideShapes.bytes_inj e)

set_option maxHeartbeats 1000000 in
theorem same_walk (a b : Option Addr) (c d : Nat) (xs ys : List ByteArray) (w : World) (hC : Cols w a xs) (hD : Cols w b ys) (hn : xs.length ≤ maxLen) :
    Calls Try.prog 12 #[.slice a xs.length c, .slice b ys.length d] w fun e w' => IsB (xs = ys) e ∧ ∃ n, w' = w.drewN n := by
  unfold maxLen at hn
  have HC := hideIt hC
  have HD := hideIt hD
  clear hC hD
  by_cases hl : xs.length = ys.length
  · have hlb : ((xs.length : Int) != (ys.length : Int)) = false := by simp [hl]
    have HL := hideIt hl
    clear hl
    go_enter Try.func12, Try.ntmps12
    go_wp2
    go_loopw [5] (fun i W => ∃ k n : Nat, k ≤ xs.length ∧ i = .int .i64 k ∧ W = w.drewN n ∧ Hid (xs.take k = ys.take k)) (fun i _ => xs.length - (intOf i).toNat)
    case atStart => exact ⟨0, 0, Nat.zero_le _, rfl, rfl, by show _ = _; simp⟩
    case round =>
      obtain ⟨k, n, hk, rfl, rfl, H⟩ := hrel
      by_cases hlt : k < xs.length
      · have hlt' : k < ys.length := by rw [← HL.out]; exact hlt
        rcases HC.out with h0 | ⟨bk, o, rfl, hb, hcell⟩
        · rw [h0] at hlt; simp at hlt
        rcases HD.out with h0 | ⟨bk', o', rfl, hb', hcell'⟩
        · rw [h0] at hlt'; simp at hlt'
        have hc := hcell k _ (getk hlt)
        have hc' := hcell' k _ (getk hlt')
        clear hcell hcell'
        have hltI : (k : Int) < (xs.length : Int) := by omega
        have hltI' : (k : Int) < (ys.length : Int) := by omega
        by_cases he : xs[k] = ys[k]
        · have hres := hideIt (take_eq_succ hlt hlt' H.out he)
          have hbe : (xs[k].toList == ys[k].toList) = true := by rw [he]; simp
          clear he
          go_wp2
          go_quiet (fail)
          go_wp2
          go_roundw
          case rel => exact ⟨k + 1, _, by omega, by go_num, rfl, hres⟩
          case measure => simp [intOf]; omega
        · have hres := hideIt (take_ne hlt hlt' he)
          have hbe := str_ne he
          clear he
          go_wp2
          go_quiet (fail)
          go_wp2
          go_ret
          exact ⟨isB_false hres.out, _, World.drewN_drewN _ _ _⟩
      · have hres := hideIt (take_all_eq HL.out (by omega : xs.length ≤ k) H.out)
        go_wp2
        go_ret
        exact ⟨isB_true hres.out, _, rfl⟩
  · have hlb : ((xs.length : Int) != (ys.length : Int)) = true := by simp; omega
    have hres : Hid (xs ≠ ys) := fun h => hl (by rw [h])
    clear hl
    go_enter Try.func12, Try.ntmps12
    go_wp2
    go_ret
    exact ⟨isB_false hres.out, 0, rfl⟩

/-- What lies behind the address of a slice of bytes. -/
def Byts (w : World) (a : Option Addr) (l : List UInt8) : Prop :=
  l = [] ∨ ∃ bk o, a = some ⟨bk, o, none⟩ ∧ bk < w.heap.size ∧ ∀ (j : Nat) x, l[j]? = some x → w.cell? ⟨bk, o + j, none⟩ = some (.int .u8 x.toNat)
theorem getb {l : List UInt8} {k : Nat} (h : k < l.length) : l[k]? = some l[k] := List.getElem?_eq_getElem h
theorem u8_ne {x y : UInt8} (h : x ≠ y) : ((x.toNat : Int) != (y.toNat : Int)) = true := by
  rw [bne_iff_ne]
  intro e
  exact h (UInt8.toNat_inj.1 (Int.ofNat_inj.1 e))

set_option maxHeartbeats 1000000 in
theorem eqb_walk (a b : Option Addr) (c d : Nat) (xs ys : List UInt8) (w : World) (hC : Byts w a xs) (hD : Byts w b ys) (hn : xs.length ≤ maxLen) :
    Calls Try.prog 13 #[.slice a xs.length c, .slice b ys.length d] w fun e w' => IsB (xs = ys) e ∧ ∃ n, w' = w.drewN n := by
  unfold maxLen at hn
  have HC := hideIt hC
  have HD := hideIt hD
  clear hC hD
  by_cases hl : xs.length = ys.length
  · have hlb : ((xs.length : Int) != (ys.length : Int)) = false := by simp [hl]
    have HL := hideIt hl
    clear hl
    go_enter Try.func13, Try.ntmps13
    go_wp2
    go_loopw [5] (fun i W => ∃ k n : Nat, k ≤ xs.length ∧ i = .int .i64 k ∧ W = w.drewN n ∧ Hid (xs.take k = ys.take k)) (fun i _ => xs.length - (intOf i).toNat)
    case atStart => exact ⟨0, 0, Nat.zero_le _, rfl, rfl, by show _ = _; simp⟩
    case round =>
      obtain ⟨k, n, hk, rfl, rfl, H⟩ := hrel
      by_cases hlt : k < xs.length
      · have hlt' : k < ys.length := by rw [← HL.out]; exact hlt
        rcases HC.out with h0 | ⟨bk, o, rfl, hb, hcell⟩
        · rw [h0] at hlt; simp at hlt
        rcases HD.out with h0 | ⟨bk', o', rfl, hb', hcell'⟩
        · rw [h0] at hlt'; simp at hlt'
        have hc := hcell k _ (getb hlt)
        have hc' := hcell' k _ (getb hlt')
        clear hcell hcell'
        have hltI : (k : Int) < (xs.length : Int) := by omega
        have hltI' : (k : Int) < (ys.length : Int) := by omega
        by_cases he : xs[k] = ys[k]
        · have hres := hideIt (take_eq_succ hlt hlt' H.out he)
          have hbe : ((xs[k].toNat : Int) != (ys[k].toNat : Int)) = false := by simp [he]
          clear he
          go_wp2
          go_quiet (fail)
          go_wp2
          go_roundw
          case rel => exact ⟨k + 1, _, by omega, by go_num, rfl, hres⟩
          case measure => simp [intOf]; omega
        · have hres := hideIt (take_ne hlt hlt' he)
          have hbe := u8_ne he
          clear he
          go_wp2
          go_quiet (fail)
          go_wp2
          go_ret
          exact ⟨isB_false hres.out, _, World.drewN_drewN _ _ _⟩
      · have hres := hideIt (take_all_eq HL.out (by omega : xs.length ≤ k) H.out)
        go_wp2
        go_ret
        exact ⟨isB_true hres.out, _, rfl⟩
  · have hlb : ((xs.length : Int) != (ys.length : Int)) = true := by simp; omega
    have hres : Hid (xs ≠ ys) := fun h => hl (by rw [h])
    clear hl
    go_enter Try.func13, Try.ntmps13
    go_wp2
    go_ret
    exact ⟨isB_false hres.out, 0, rfl⟩
end Go.Proofs.Qxb6614843a
