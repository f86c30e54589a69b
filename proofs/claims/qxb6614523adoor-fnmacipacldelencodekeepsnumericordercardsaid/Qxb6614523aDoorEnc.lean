import Derived.Test.Qxb6614523aDoorRows
import Derived.Test.Qxb6614523aDoorShelf
import Derived.WalkKit
import Derived.Deep.QuietTactic
import Derived.Deep.RegionWith
import Derived.BigQuiet
namespace Go.Proofs.Qxb6614523aDoor
open Go.RowKit

/-- Four bytes lie at the head of block g. -/
def Has4 (w : World) (g : Nat) (a : Nat → Int) : Prop := ∀ i, i < 4 → w.cell? ⟨g, i, none⟩ = some (.int .u8 (a i))

/-- The four bytes of v, the greatest first. -/
def by4 (v i : Nat) : Int := ((Lib.beBytes 4 v).getD i 0).toNat

theorem hideIt {p : Prop} (h : p) : Hid p := h
theorem below_drewN {B : Nat} {a w : World} (h : Below B a w) (n : Nat) : Below B a (w.drewN n) := ⟨h.os, h.tape, h.output, h.size, h.block⟩
theorem len4 (v : Nat) : (Lib.beBytes 4 v).length = 4 := by simp [Lib.beBytes, Lib.leBytes]

theorem append_walk (v : Nat) (hv : v < 4294967296) (w : World) :
    Calls Tryd.prog 12 #[.agg #[], .slice none 0 0, .int .u32 v] w fun e w' => ∃ g c, e = .returned (.slice (some ⟨g, 0, none⟩) 4 c) ∧ w.heap.size ≤ g ∧ Has4 w' g (by4 v) ∧ 4 ≤ c ∧ c ≤ maxLen ∧ Below w.heap.size w w' := by
  refine (Tryd.binary_BE_AppendUint32 w.heap.size 0 v hv (.slice none 0 0) [] w ⟨rfl, .inl ⟨rfl, rfl⟩⟩ (Nat.le_refl _) (by omega)).mono ?_
  rintro e w' ⟨v', rfl, ⟨_, h⟩, hb⟩
  rcases h with ⟨_, h0⟩ | ⟨g, cap, cur, rfl, hg, hh, hn, hc, _, ht⟩
  · omega
  · refine ⟨g, cap, rfl, hg, fun i hi => ?_, by omega, hc, hb⟩
    have hcur : cur[i]? = some (.int .u8 (by4 v i)) := by
      have h1 : (cur.toList.take ((0 + 4) * 1))[i]? = ([] ++ Lib.byteCells (Lib.beBytes 4 v))[i]? := by rw [ht]
      rw [List.getElem?_take_of_lt (by omega)] at h1
      have hl := len4 v
      simp only [List.nil_append, Lib.byteCells, List.getElem?_map, Array.getElem?_toList] at h1
      rw [h1, List.getElem?_eq_getElem (by omega)]
      simp [by4, List.getD_eq_getElem?_getD, List.getElem?_eq_getElem (show i < (Lib.beBytes 4 v).length by omega)]
    simp only [World.cell?, hh]
    exact hcur

set_option maxHeartbeats 1000000 in
theorem encu32_walk (b v : Nat) (hv : v < 4294967296) (w : World) (hb : b < w.heap.size) (h0 : w.cell? ⟨b, 0, none⟩ = some (.slice none 0 0)) (hf : w.frozen? ⟨b, 0, none⟩ = false) :
    Calls Tryd.prog 9 #[.pointer (some ⟨b, 0, none⟩), .int .u32 v] w fun e w' => e = .returned (.tuple #[]) ∧ ∃ g c w1, w' = w1.setCell ⟨b, 0, none⟩ (.slice (some ⟨g, 0, none⟩) 4 c) ∧ w.heap.size ≤ g ∧ Has4 w1 g (by4 v) ∧ 4 ≤ c ∧ c ≤ maxLen ∧ Below w.heap.size w w1 := by
  go_enter Tryd.func9, Tryd.ntmps9
  go_wp2_with fail
  go_region_with (go_at_call 12; refine (append_walk v hv _).mono ?_; rintro e w2 ⟨g, c, rfl, hg, h4, hc4, hcm, hB⟩; have q1 := hB.cell (p := ⟨b, 0, none⟩) hb; have q2 := hB.frozen (p := ⟨b, 0, none⟩) hb)
  all_goals
    go_end0
    exact ⟨rfl, g, c, w2, rfl, hg, h4, hc4, hcm, (Below.refl _ _).drew.trans hB⟩

set_option maxHeartbeats 1000000 in
theorem encode_walk (m b v : Nat) (hv : v < 4294967296) (w : World) (hm : w.cell? ⟨m, 0, none⟩ = some (.int .u32 v)) (hb : b < w.heap.size) (h0 : w.cell? ⟨b, 0, none⟩ = some (.slice none 0 0)) (hf : w.frozen? ⟨b, 0, none⟩ = false) :
    Calls Tryd.prog 7 #[.pointer (some ⟨m, 0, none⟩), .pointer (some ⟨b, 0, none⟩)] w fun e w' => e = .returned (.tuple #[]) ∧ ∃ g c w1, w' = w1.setCell ⟨b, 0, none⟩ (.slice (some ⟨g, 0, none⟩) 4 c) ∧ w.heap.size ≤ g ∧ Has4 w1 g (by4 v) ∧ 4 ≤ c ∧ c ≤ maxLen ∧ Below w.heap.size w w1 := by
  go_enter Tryd.func7, Tryd.ntmps7
  go_wp2_with fail
  refine (encu32_walk b v hv _ hb h0 hf).mono ?_
  rintro e w' ⟨rfl, h⟩
  have H := hideIt h
  clear h
  go_wp2_with fail
  go_end0
  exact ⟨rfl, H.out⟩

theorem has4_lt {w : World} {g : Nat} {a : Nat → Int} (h : Has4 w g a) : g < w.heap.size := by
  have h0 := h 0 (by omega)
  rcases Nat.lt_or_ge g w.heap.size with h' | h'
  · exact h'
  · simp [World.cell?, Array.getElem?_eq_none h'] at h0
theorem has4_below {w w' : World} {g B : Nat} {a : Nat → Int} (h : Has4 w g a) (hb : Below B w w') (hg : g < B) : Has4 w' g a :=
  fun i hi => (hb.cell (p := ⟨g, i, none⟩) hg).trans (h i hi)

set_option maxHeartbeats 1000000 in
theorem zzenc_walk (v : Nat) (hv : v < 4294967296) (w : World) :
    Calls Tryd.prog 4 #[.int .u32 v, .slice none 0 0, .bool false] w fun e w' => ∃ g c, e = .returned (.tuple #[.slice (some ⟨g, 0, none⟩) 4 c, .bool false]) ∧ w.heap.size ≤ g ∧ Has4 w' g (by4 v) ∧ 4 ≤ c ∧ c ≤ maxLen ∧ Below w.heap.size w w' := by
  go_enter Tryd.func4, Tryd.ntmps4
  go_wp2_with fail
  refine (encode_walk w.heap.size (w.heap.size + 1) v hv _ (by simp) (by simp) (by simp) (by simp)).mono ?_
  rintro e w' ⟨rfl, g, c, w1, rfl, hg, h4, hc4, hcm, hB⟩
  have q1 := hB.cell (p := ⟨w.heap.size + 1, 0, none⟩) (by simp)
  have q2 := hB.cell (p := ⟨w.heap.size + 1, 1, none⟩) (by simp)
  go_wp2_with fail
  go_quiet (fail)
  go_wp2
  go_ret2
  simp only [World.size_alloc] at hg
  have hsz : w.heap.size + 1 + 1 ≤ g := hg
  refine ⟨g, c, rfl, by omega, fun i hi => ?_, hc4, hcm, ?_⟩
  · have hx := h4 i hi
    show (w1.setCell ⟨w.heap.size + 1, 0, none⟩ _).cell? ⟨g, i, none⟩ = _
    refine (World.cell?_setCell_other _ _ _ _ ?_).trans hx
    intro h; have := congrArg Addr.block h; simp at this; omega
  · refine below_drewN ?_ _
    exact ((((Below.refl _ _).alloc (Nat.le_refl _) _).alloc (by simp) _).trans (hB.mono (by simp; omega))).setCell (by simp) _
end Go.Proofs.Qxb6614523aDoor
