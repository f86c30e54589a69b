import Derived.Test.Qxb6614523aDoorRows
import Derived.WalkKit
import Derived.Deep.QuietTactic
import Derived.BigQuiet
namespace Go.Proofs.Qxb6614523aDoor
open Go.RowKit

/-- The order of two rows of bytes, k of them from place i on. -/
def lex (a b : Nat → Int) : Nat → Nat → Int
  | 0, _ => 0
  | k + 1, i => if a i < b i then -1 else if b i < a i then 1 else lex a b k (i + 1)

set_option maxHeartbeats 1000000 in
theorem compare_walk (ga ca gb cb : Nat) (a b : Nat → Int) (w : World)
    (ha : ∀ i, i < 4 → w.cell? ⟨ga, i, none⟩ = some (.int .u8 (a i))) (hb : ∀ i, i < 4 → w.cell? ⟨gb, i, none⟩ = some (.int .u8 (b i))) :
    Calls Tryd.prog 5 #[.slice (some ⟨ga, 0, none⟩) 4 ca, .slice (some ⟨gb, 0, none⟩) 4 cb] w fun e w' => e = .returned (.int .i64 (lex a b 4 0)) ∧ ∃ n, w' = w.drewN n := by
  have HA : Hid (∀ i, i < 4 → w.cell? ⟨ga, i, none⟩ = some (.int .u8 (a i))) := ha
  have HB : Hid (∀ i, i < 4 → w.cell? ⟨gb, i, none⟩ = some (.int .u8 (b i))) := hb
  clear ha hb
  go_enter Tryd.func5, Tryd.ntmps5
  go_wp2
  go_loopw [6] (fun i W => ∃ k n : Nat, k ≤ 4 ∧ i = .int .i64 k ∧ W = w.drewN n ∧ lex a b 4 0 = lex a b (4 - k) k) (fun i _ => 4 - (intOf i).toNat)
  case atStart => exact ⟨0, 0, by omega, rfl, rfl, rfl⟩
  case round =>
    obtain ⟨k, n, hk, rfl, rfl, hl⟩ := hrel
    have HL : Hid (lex a b 4 0 = lex a b (4 - k) k) := hl
    clear hl
    by_cases hlt : k < 4
    · have ca := HA.out k hlt
      have cb := HB.out k hlt
      have hs : Hid (lex a b (4 - k) k = if a k < b k then -1 else if b k < a k then 1 else lex a b (4 - (k + 1)) (k + 1)) := by
        show lex a b (4 - k) k = _
        rw [show 4 - k = (4 - (k + 1)) + 1 from by omega]; rfl
      have hltI : (k : Int) < 4 := by omega
      by_cases h1 : a k < b k
      · have hres : Hid (lex a b 4 0 = -1) := by show lex a b 4 0 = -1; rw [HL.out, hs.out, if_pos h1]
        go_wp2
        go_quiet (fail)
        go_wp2
        go_ret
        exact ⟨by rw [hres.out]; rfl, _, World.drewN_drewN _ _ _⟩
      · by_cases h2 : b k < a k
        · have hres : Hid (lex a b 4 0 = 1) := by show lex a b 4 0 = 1; rw [HL.out, hs.out, if_neg h1, if_pos h2]
          go_wp2
          go_quiet (fail)
          go_wp2
          go_quiet (fail)
          go_wp2
          go_ret
          exact ⟨by rw [hres.out]; rfl, _, (World.drewN_drewN _ _ _).trans (World.drewN_drewN _ _ _)⟩
        · have hres : Hid (lex a b 4 0 = lex a b (4 - (k + 1)) (k + 1)) := by show lex a b 4 0 = _; rw [HL.out, hs.out, if_neg h1, if_neg h2]
          go_wp2
          go_quiet (fail)
          go_wp2
          go_quiet (fail)
          go_wp2
          go_roundw
          case rel => exact ⟨k + 1, _, by omega, by go_num, rfl, hres.out⟩
          case measure => simp [intOf]; omega
    · have hk4 : k = 4 := by omega
      have hres : Hid (lex a b 4 0 = 0) := by show lex a b 4 0 = 0; rw [HL.out, hk4]; rfl

      go_wp2
      go_ret
      exact ⟨by rw [hres.out]; rfl, _, rfl⟩
end Go.Proofs.Qxb6614523aDoor
