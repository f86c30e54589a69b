import Derived.Test.Qxb6614843aInj
import Derived.Lib.SlBytesConst
namespace Go.Proofs.Qxb6614843a
open Go.RowKit

/-- The bytes as numbers. -/
def numsOf (l : List UInt8) : List Int := l.map fun x => (x.toNat : Int)
theorem bytesOf_nums (l : List UInt8) : Lib.bytesOf (numsOf l) = l := by
  simp [Lib.bytesOf, numsOf, List.map_map, Function.comp_def]

theorem bytesIn_of {w : World} {a : Option Addr} {l : List UInt8} (h : Byts w a l) : Lib.BytesIn w a l.length (numsOf l) := by
  intro hn
  rcases h with h | ⟨bk, o, ha, _, hc⟩
  · rw [h] at hn; exact absurd hn (Nat.lt_irrefl 0)
  · refine ⟨bk, o, ha, fun i hi => ?_⟩
    rw [hc i _ (getb hi)]
    simp [numsOf, List.getD_eq_getElem?_getD, List.getElem?_eq_getElem hi]

/-- The new block of a byte literal. -/
abbrev litC : Array Value := #[.int .u8 108, .int .u8 101, .int .u8 97, .int .u8 102, .int .u8 119, .int .u8 105, .int .u8 115, .int .u8 101, .int .u8 46]
theorem lit_byts (w : World) (fr : Nat × Nat) : Byts (w.alloc (.cells litC 5 fr)) (some ⟨w.heap.size, 0, none⟩) pre9 := by
  refine .inr ⟨_, 0, rfl, by simp, fun j x hx => ?_⟩
  rw [Nat.zero_add]
  unfold World.cell?
  rw [show (w.alloc (.cells litC 5 fr)).heap[w.heap.size]? = some _ from (MapKept.heap_alloc w _).1]
  have e : litC = (pre9.map fun x => Value.int .u8 (x.toNat : Int)).toArray := rfl
  show litC[j]? = _
  rw [e]
  simp [hx]

set_option maxHeartbeats 1000000 in
theorem res_walk (a : Option Addr) (c : Nat) (l : List UInt8) (w : World) (hb : Byts w a l) (hc : l.length ≤ c) :
    Calls Try.prog 30 #[.slice a l.length c] w fun e w' => e = .returned (.bool (pre9.isPrefixOf l)) ∧ Below w.heap.size w w' := by
  have kc := fun (w : World) (C : Array Value) (n c : Nat) => Lib.run_convert_bytes_const (P := Try.prog) w 27 5 C n c Try.underlying27 Try.underlying5
  have HB := hideIt (byts_below hb ((Below.refl w.heap.size w).alloc (Nat.le_refl _) (.cells litC 5 (9, 10))) (Nat.le_refl _))
  clear hb
  go_enter Try.func30, Try.ntmps30
  go_wp2_with fail
  refine (Try.bytes_HasPrefix_all a _ l.length c 9 9 (numsOf l) (numsOf pre9) _ (by simp [numsOf]) (by simp [numsOf, pre9]) hc (bytesIn_of HB.out) (bytesIn_of (lit_byts w (9, 10)))).mono ?_
  rintro e w' ⟨rfl, rfl⟩
  rw [bytesOf_nums, bytesOf_nums]
  go_wp2_with fail
  go_ret
  exact ⟨rfl, (Below.refl _ _).alloc (Nat.le_refl _) _⟩

set_option maxHeartbeats 1000000 in
theorem zzres_walk (a : Option Addr) (c : Nat) (l : List UInt8) (w : World) (hb : Byts w a l) (hc : l.length ≤ c) :
    Calls Try.prog 15 #[.slice a l.length c] w fun e w' => e = .returned (.bool (pre9.isPrefixOf l)) ∧ Below w.heap.size w w' := by
  have HB := hideIt hb
  clear hb
  go_enter Try.func15, Try.ntmps15
  go_wp2_with fail
  refine (res_walk a c l w HB.out hc).mono ?_
  rintro e w' ⟨rfl, hB⟩
  go_wp2_with fail
  go_ret
  exact ⟨rfl, hB⟩
end Go.Proofs.Qxb6614843a
