import Derived.Test.Qxb6614523aDoorEnc
import Derived.WalkSpells
import Derived.Lib.EndianMore
namespace Go.Proofs.Qxb6614523aDoor
open Go.RowKit

set_option maxHeartbeats 1000000 in
theorem next_walk (b g c : Nat) (w : World) (hc4 : 4 ≤ c) (hcm : c ≤ maxLen)
    (h0 : w.cell? ⟨b, 0, none⟩ = some (.slice (some ⟨g, 0, none⟩) 4 c)) (hf : w.frozen? ⟨b, 0, none⟩ = false) (h1 : w.cell? ⟨b, 1, none⟩ = some .nilIface) :
    Calls Tryd.prog 10 #[.pointer (some ⟨b, 0, none⟩), .int .i64 4] w fun e w' => e = .returned (.slice (some ⟨g, 0, none⟩) 4 4) ∧ ∃ x k, w' = w.setCell ⟨b, 0, none⟩ (.slice x 0 k) := by
  unfold maxLen at hcm
  go_enter Tryd.func10, Tryd.ntmps10
  go_wp2
  all_goals
    go_ret
    exact ⟨rfl, _, _, rfl⟩

theorem back4 (v : Nat) (hv : v < 4294967296) : Lib.beNat [(Lib.beBytes 4 v).getD 0 0, (Lib.beBytes 4 v).getD 1 0, (Lib.beBytes 4 v).getD 2 0, (Lib.beBytes 4 v).getD 3 0] = v := by
  have h : [(Lib.beBytes 4 v).getD 0 0, (Lib.beBytes 4 v).getD 1 0, (Lib.beBytes 4 v).getD 2 0, (Lib.beBytes 4 v).getD 3 0] = Lib.beBytes 4 v := by
    simp [Lib.beBytes, Lib.leBytes]
  rw [h]
  exact Lib.beNat_beBytes 4 v (by omega)

set_option maxHeartbeats 1000000 in
theorem u32_walk (b g c v : Nat) (hv : v < 4294967296) (w : World) (hc4 : 4 ≤ c) (hcm : c ≤ maxLen) (hbg : g ≠ b) (h4 : Has4 w g (by4 v))
    (h0 : w.cell? ⟨b, 0, none⟩ = some (.slice (some ⟨g, 0, none⟩) 4 c)) (hf : w.frozen? ⟨b, 0, none⟩ = false) (h1 : w.cell? ⟨b, 1, none⟩ = some .nilIface) :
    Calls Tryd.prog 8 #[.pointer (some ⟨b, 0, none⟩)] w fun e w' => e = .returned (.int .u32 v) ∧ ∃ x k, Below w.heap.size (w.setCell ⟨b, 0, none⟩ (.slice x 0 k)) w' := by
  have hnn : ∀ (W : World), (binOp .neq 23 (.slice (some ⟨g, 0, none⟩) 4 4) (.slice none 0 0)).run Tryd.prog W = .ok (.bool true) W := fun W => run_neq_slice_nil_any W 23 5 (some ⟨g, 0, none⟩) 4 4 0 0 Tryd.underlying23
  go_enter Tryd.func8, Tryd.ntmps8
  go_wp2_with fail
  refine (next_walk b g c w hc4 hcm h0 hf h1).mono ?_
  rintro e w' ⟨rfl, x, k, rfl⟩
  have h4' : Has4 (w.setCell ⟨b, 0, none⟩ (.slice x 0 k)) g (by4 v) := by
    intro i hi
    refine (World.cell?_setCell_other _ _ _ _ ?_).trans (h4 i hi)
    intro h; have := congrArg Addr.block h; simp at this; omega
  have hsz : (w.setCell ⟨b, 0, none⟩ (.slice x 0 k)).heap.size = w.heap.size := by simp
  go_wp2_with fail
  refine (Tryd.binary_BE_Uint32 g 0 4 4 ((Lib.beBytes 4 v).getD 0 0) ((Lib.beBytes 4 v).getD 1 0) ((Lib.beBytes 4 v).getD 2 0) ((Lib.beBytes 4 v).getD 3 0) _ (by omega) (h4' 0 (by omega)) (h4' 1 (by omega)) (h4' 2 (by omega)) (h4' 3 (by omega))).mono ?_
  rintro e w2 ⟨rfl, hB⟩
  rw [back4 v hv]
  rw [hsz] at hB
  go_wp2_with fail
  go_ret
  exact ⟨rfl, x, k, hB⟩

set_option maxHeartbeats 1000000 in
theorem zzdec_walk (g c v : Nat) (hv : v < 4294967296) (w : World) (hc4 : 4 ≤ c) (hcm : c ≤ maxLen) (h4 : Has4 w g (by4 v)) :
    Calls Tryd.prog 6 #[.slice (some ⟨g, 0, none⟩) 4 c] w fun e w' => ∃ x k, e = .returned (.tuple #[.int .u32 v, .slice x 0 k, .bool false]) ∧ Below w.heap.size w w' := by
  have hg := has4_lt h4
  have h4' : Has4 (w.alloc (.cells #[.slice (some ⟨g, 0, none⟩) 4 c, .nilIface] 40)) g (by4 v) := has4_below h4 ((Below.refl _ _).alloc (Nat.le_refl _) _) hg
  go_enter Tryd.func6, Tryd.ntmps6
  go_wp2_with fail
  refine (u32_walk w.heap.size g c v hv _ hc4 hcm (by omega) h4' (by simp) (by simp) (by simp)).mono ?_
  rintro e w' ⟨rfl, x, k, hB⟩
  have q1 := hB.cell (p := ⟨w.heap.size, 0, none⟩) (by simp)
  have q2 := hB.cell (p := ⟨w.heap.size, 1, none⟩) (by simp)
  clear h4'
  go_wp2_with fail
  go_quiet (fail)
  go_wp2
  go_ret3
  exact ⟨x, k, rfl, below_drewN ((((Below.refl _ _).alloc (Nat.le_refl _) _).setCell (Nat.le_refl _) _).trans (hB.mono (by simp))) _⟩
end Go.Proofs.Qxb6614523aDoor
