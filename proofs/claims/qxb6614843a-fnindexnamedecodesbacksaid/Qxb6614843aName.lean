import Derived.Test.Qxb6614843aEq
import Derived.Test.Qxb6614843aShelf
import Derived.Laws.IdiomStrings
namespace Go.Proofs.Qxb6614843a
open Go.RowKit

theorem cols_below {w w' : World} {a : Option Addr} {xs : List ByteArray} {B : Nat} (h : Cols w a xs) (hb : Below B w w') (hB : w.heap.size ≤ B) : Cols w' a xs := by
  rcases h with h | ⟨bk, o, ha, hlt, hc⟩
  · exact .inl h
  · exact .inr ⟨bk, o, ha, Nat.lt_of_lt_of_le hlt hb.size, fun j x hx => (hb.cell (p := ⟨bk, o + j, none⟩) (by show bk < B; omega)).trans (hc j x hx)⟩

theorem lenJoin (xs : List ByteArray) : (Lib.join (lsts xs) [44]).length ≤ tot xs + xs.length := by
  have h := join_length (lsts xs)
  have e : (lsts xs).map List.length = xs.map (·.size) := by
    simp [lsts, List.map_map, Function.comp_def]
  rw [e] at h
  simpa [tot, lsts] using h

set_option maxHeartbeats 1000000 in
theorem string_walk (a : Option Addr) (c : Nat) (xs : List ByteArray) (w : World) (hC : Cols w a xs) (hc : xs.length ≤ c) (ht : tot xs + xs.length ≤ 1048576) :
    Calls Try.prog 32 #[.agg #[.slice a xs.length c]] w fun e w' => e = .returned (.string ⟨(Lib.join (lsts xs) [44]).toArray⟩) ∧ Below w.heap.size w w' := by
  have hlen := lenJoin xs
  have hC' := hideIt (cols_below hC ((Below.refl w.heap.size w).alloc (Nat.le_refl _) (.cells #[.slice a xs.length c] 30)) (Nat.le_refl _))
  clear hC
  rcases hC'.out with h0 | ⟨bk, o, rfl, hlt, hcell⟩
  · subst h0
    clear hC'
    go_enter Try.func32, Try.ntmps32
    go_wp2_with fail
    refine (Try.strings_Join_none a c _ _).mono ?_
    rintro e w' ⟨rfl, rfl⟩
    go_wp2_with fail
    go_ret
    exact ⟨rfl, (Below.refl _ _).alloc (Nat.le_refl _) _⟩
  · have HC := hideIt hcell
    clear hcell
    go_enter Try.func32, Try.ntmps32
    go_wp2_with fail
    refine (Try.strings_Join bk o c xs _ _ HC.out hlt (by omega) hc (by show (Lib.join (lsts xs) [44]).length ≤ _; omega)).mono ?_
    rintro e w' ⟨rfl, hB⟩
    go_wp2_with fail
    go_ret
    exact ⟨rfl, ((Below.refl _ _).alloc (Nat.le_refl _) _).trans (hB.mono (by simp))⟩

/-- A new slice that holds just the bytes l. -/
def NewB (l : List UInt8) (w w' : World) (e : Ending) : Prop :=
  ∃ g k, e = .returned (.slice (some ⟨g, 0, none⟩) l.length k) ∧ w.heap.size ≤ g ∧ l.length ≤ k ∧ k ≤ maxLen ∧ Byts w' (some ⟨g, 0, none⟩) l ∧ Below w.heap.size w w'

theorem bytesRow_get (s : ByteArray) (cap i : Nat) (x : UInt8) (h : (bts s)[i]? = some x) : (bytesRow s cap)[i]? = some (.int .u8 x.toNat) := by
  have hi : i < s.size := by
    have := (List.getElem?_eq_some_iff.1 h).1
    simpa using this
  unfold bytesRow
  rw [Array.getElem?_append_left (by simpa using hi)]
  simp only [Array.getElem?_map]
  have : s.data[i]? = some x := by simpa [bts] using h
  rw [this]
  rfl

/-- The index's name as the Go text joins it. -/
def nameS (s : ByteArray) (xs : List ByteArray) : ByteArray := { data := #[108, 101, 97, 102, 119, 105, 115, 101, 46, 105, 110, 100, 101, 120, 46] } ++ s ++ { data := #[46] } ++ { data := (Lib.join (lsts xs) [44]).toArray }
theorem nameS_bts (s : ByteArray) (xs : List ByteArray) : bts (nameS s xs) = nameL (bts s) (lsts xs) := by
  simp [nameS, nameL, bts, pre15]

theorem newB_of (s : ByteArray) (xs : List ByteArray) (w w' : World) (n : Nat) (hB : Below w.heap.size w w') (hn : n = (nameS s xs).size) (hm : n ≤ maxLen) (fr : Nat × Nat) :
    NewB (nameL (bts s) (lsts xs)) w (w'.alloc (.cells (bytesRow (nameS s xs) (grownCap w' n 0 5)) 5 fr)).drew (.returned (.slice (some ⟨w'.heap.size, 0, none⟩) n (grownCap w' n 0 5))) := by
  have hl : (nameL (bts s) (lsts xs)).length = n := by rw [← nameS_bts, size_bts, hn]
  refine ⟨w'.heap.size, grownCap w' n 0 5, by rw [hl], hB.size, ?_, ?_, .inr ⟨_, 0, rfl, by simp, fun j x hx => ?_⟩, (hB.alloc hB.size _).drew⟩
  · rw [hl]; exact grownCap_ge _ _ _ _
  · exact grownCap_le_maxLen _ _ _ _ hm
  · rw [← nameS_bts] at hx
    have := bytesRow_get _ (grownCap w' n 0 5) j x hx
    show (w'.alloc (.cells (bytesRow (nameS s xs) (grownCap w' n 0 5)) 5 fr)).cell? ⟨w'.heap.size, 0 + j, none⟩ = _
    rw [Nat.zero_add]
    unfold World.cell?
    rw [show (w'.alloc (.cells (bytesRow (nameS s xs) (grownCap w' n 0 5)) 5 fr)).heap[w'.heap.size]? = some _ from (MapKept.heap_alloc w' _).1]
    exact this

set_option maxHeartbeats 1000000 in
theorem index_walk (s : ByteArray) (a : Option Addr) (c : Nat) (xs : List ByteArray) (w : World) (hC : Cols w a xs) (hc : xs.length ≤ c) (ht : s.size + xs.length + tot xs ≤ 1048576) :
    Calls Try.prog 29 #[.string s, .agg #[.slice a xs.length c]] w fun e w' => NewB (nameL (bts s) (lsts xs)) w w' e := by
  have hcv := fun w s => run_bytes_of_string (P := Try.prog) w 9 27 5 s Try.underlying9 Try.underlying27 Try.underlying5
  have hC' := cols_below hC ((Below.refl w.heap.size w).alloc (Nat.le_refl _) (.cells #[.slice a xs.length c] 30)) (Nat.le_refl _)
  have hlen := lenJoin xs
  go_enter Try.func29, Try.ntmps29
  go_wp2_with fail
  refine (string_walk a c xs _ hC' hc (by omega)).mono ?_
  rintro e w' ⟨rfl, hB⟩
  go_wp2_with fail
  go_ret
  exact newB_of s xs w w' _ (((Below.refl _ _).alloc (Nat.le_refl _) _).trans (hB.mono (by simp))) (by simp [nameS]; rfl) (by unfold maxLen; omega) _

set_option maxHeartbeats 1000000 in
theorem zzindex_walk (s : ByteArray) (a : Option Addr) (c : Nat) (xs : List ByteArray) (w : World) (hC : Cols w a xs) (hc : xs.length ≤ c) (ht : s.size + xs.length + tot xs ≤ 1048576) :
    Calls Try.prog 11 #[.string s, .agg #[.slice a xs.length c]] w fun e w' => NewB (nameL (bts s) (lsts xs)) w w' e := by
  have hC' := cols_below hC ((Below.refl w.heap.size w).alloc (Nat.le_refl _) (.cells #[.slice a xs.length c] 30)) (Nat.le_refl _)
  go_enter Try.func11, Try.ntmps11
  go_wp2_with fail
  refine (index_walk s a c xs _ hC' hc ht).mono ?_
  rintro e w' ⟨g, k, rfl, hg, hk, hkm, hb, hB⟩
  go_wp2_with fail
  go_ret
  exact ⟨g, k, rfl, by simp at hg; omega, hk, hkm, hb, ((Below.refl _ _).alloc (Nat.le_refl _) _).trans (hB.mono (by simp))⟩
end Go.Proofs.Qxb6614843a
