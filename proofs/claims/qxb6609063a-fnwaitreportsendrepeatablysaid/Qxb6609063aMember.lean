import Derived.Test.Qxb6609063aRows
import Derived.Conc.LoneCalls
import Derived.WalkKit
import Derived.ProofKit
import Derived.OpenShut
import Derived.ShutString
namespace Go.Proofs.Qxb6609063a.Member
open Go.Conc Go.RowKit

set_option maxRecDepth 100000 in
theorem mk0 (w : World) : (Instr.makeChan 33 (.int .i64 0)).run Try.prog w = .ok (.chan (some w.heap.size)) (w.alloc (.chan 0 #[] false 0 0 false)) := by
  have h : (Try.prog.info? 37).map (·.bytes) = some 0 := by kernel_rfl
  obtain ⟨i, hi, hb⟩ := Option.map_eq_some_iff.1 h
  simpa using run_makeChan (P := Try.prog) (w := w) Try.underlying33 hi .i64 0 (by omega) (by rw [hb]; omega)

set_option maxRecDepth 100000 in
theorem wait_walk (b c : Nat) (err : Value) (w : World)
    (h1 : w.cell? ⟨b, 1, none⟩ = some (.chan (some c))) (h2 : w.cell? ⟨b, 2, none⟩ = some err)
    (hch : w.heap[c]? = some (.chan 0 #[] true 0 0 false)) :
    Calls Try.prog 5 #[.pointer (some ⟨b, 0, none⟩)] w fun e w' => e = .returned err ∧ w' = w := by
  refine calls_of_loneTo fun cs => ?_
  have e : Frame.enter Try.prog 5 #[.pointer (some ⟨b, 0, none⟩)] .normal = (base 5).at ⟨#[.pointer (some ⟨b, 0, none⟩), undef, undef, undef, undef, undef, undef, undef, undef, undef, undef, undef], []⟩ [.code (Try.f5.body.getD .skip)] := by
    simp [Frame.enter, Frame.at, Try.func5, base, Try.f5]
  rw [e]
  refine LoneTo.goes (n := 10) ?_
  simp only [Try.f5, Option.getD_some]
  s_c stepG_seq
  s_reg
  s_op
  s_c stepG_region_end
  s_c stepG_seq
  s_reg
  s_op
  s_op
  s_op
  s_op
  s_stop
  refine LoneTo.step (step_lone_recv_shut false (c := c) (z := .agg #[]) (cap := 0) (s := 0) (r := 0) (tm := false) (stepG_comm (cases := #[rcase c (.agg #[])]) (blocking := true) (shape := .recv false) (w' := w) rfl rfl (by decide) (by simp [go_sem, rcase])) hch) ?_
  rw [Frame.finish_at]
  simp only [got]
  walk_nrm
  refine LoneTo.goes (n := 10) ?_
  s_c stepG_region_end
  s_c stepG_seq
  s_reg
  s_op
  s_op
  s_op
  s_op
  s_op
  s_c stepG_region_end
  s_c stepG_ret'
  s_stop
  refine LoneTo.done ⟨.returned err, _, rfl, ⟨rfl, rfl⟩, rfl, rfl, rfl, rfl, _, Try.func5, by simp [results, Try.f5, Frame.at]⟩


/-- What the two walks below say of the world that ZZendedMember leaves: a member at block b with its closed channel and its error. -/
def Ended (w w' : World) (b c : Nat) (err : Value) : Prop :=
  Below w.heap.size w w' ∧ w'.cell? ⟨b, 1, none⟩ = some (.chan (some c)) ∧ w'.cell? ⟨b, 2, none⟩ = some err ∧ w'.heap[c]? = some (.chan 0 #[] true 0 0 false)

theorem cell_new (w : World) (c : Array Value) (t : TypeId) (o : Nat) : (w.alloc (.cells c t)).cell? ⟨w.heap.size, o, none⟩ = c[o]? := by
  simp only [World.cell?]
  rw [heap_alloc_new]
  rfl

theorem ended_mk (w w0 : World) (h0 : Below w.heap.size w w0) (err : Value) :
    Ended w (((w0.alloc (.chan 0 #[] false 0 0 false)).setChan w0.heap.size 0 #[] true 0 0 false).alloc (.cells #[.pointer none, .chan (some w0.heap.size), err] 36)) (w0.heap.size + 1) w0.heap.size err := by
  have hs := h0.size
  refine ⟨(below_setChan (h0.alloc hs _) hs _ _ _ _ _ _).alloc (by simp [World.setChan]; omega) _, ?_, ?_, ?_⟩
  · rw [show w0.heap.size + 1 = ((w0.alloc (.chan 0 #[] false 0 0 false)).setChan w0.heap.size 0 #[] true 0 0 false).heap.size from by simp [World.setChan]]
    rw [cell_new]; rfl
  · rw [show w0.heap.size + 1 = ((w0.alloc (.chan 0 #[] false 0 0 false)).setChan w0.heap.size 0 #[] true 0 0 false).heap.size from by simp [World.setChan]]
    rw [cell_new]; rfl
  · rw [Below.heap_alloc _ _ _ (by simp [World.setChan])]
    exact heap_setChan _ _ _ _ _ _ _ _ (by simp)

set_option maxRecDepth 100000 in
theorem ended_false (w : World) :
    Calls Try.prog 4 #[.bool false] w fun e w' => ∃ b c, e = .returned (.pointer (some ⟨b, 0, none⟩)) ∧ Ended w w' b c .nilIface := by
  have hmc := mk0
  have hcl := fun ats ty => run_close_open (P := Try.prog) (w := (w.alloc (.chan 0 #[] false 0 0 false))) ats ty (heap_alloc_new w (.chan 0 #[] false 0 0 false))
  go_enter Try.func4, Try.ntmps4
  go_wp2_with fail
  go_ret
  exact ⟨_, _, rfl, ended_mk w w (Below.refl _ _) _⟩

set_option maxRecDepth 100000 in
theorem ended_true (w : World) :
    Calls Try.prog 4 #[.bool true] w fun e w' => ∃ b c a, e = .returned (.pointer (some ⟨b, 0, none⟩)) ∧ Ended w w' b c (.iface 28 a) := by
  have hmc := mk0
  have hcl := fun ats ty => run_close_open (P := Try.prog) (w := ((w.alloc (.cells #[.pointer none, .slice none 0 0] 32)).alloc (.chan 0 #[] false 0 0 false))) ats ty (heap_alloc_new (w.alloc (.cells #[.pointer none, .slice none 0 0] 32)) (.chan 0 #[] false 0 0 false))
  simp only [World.size_alloc] at hcl
  go_enter Try.func4, Try.ntmps4
  go_wp2_with fail
  go_ret
  have hm := ended_mk w (w.alloc (.cells #[.pointer none, .slice none 0 0] 32)) ((Below.refl _ _).alloc (Nat.le_refl _) _) (.iface 28 (.pointer (some ⟨w.heap.size, 0, none⟩)))
  simp only [World.size_alloc] at hm
  exact ⟨w.heap.size + 1 + 1, w.heap.size + 1, .pointer (some ⟨w.heap.size, 0, none⟩), rfl, hm⟩

/-- The law's own walk. -/
theorem law_false (w : World) :
    Calls Try.prog 3 #[.bool false] w fun e w' => e = .returned (.bool true) ∧ Below w.heap.size w w' := by
  go_enter Try.func3, Try.ntmps3
  go_wp2_with fail
  refine (ended_false w).mono ?_
  rintro e w' ⟨b, c, rfl, hb, h1, h2, h3⟩
  go_wp2_with fail
  refine (wait_walk b c .nilIface w' h1 h2 h3).mono ?_
  rintro e w1 ⟨rfl, rfl⟩
  go_wp2_with fail
  refine (wait_walk b c .nilIface _ h1 h2 h3).mono ?_
  rintro e w1 ⟨rfl, rfl⟩
  go_wp2_with fail
  go_ret
  exact ⟨rfl, hb⟩

theorem law_true (w : World) :
    Calls Try.prog 3 #[.bool true] w fun e w' => e = .returned (.bool true) ∧ Below w.heap.size w w' := by
  go_enter Try.func3, Try.ntmps3
  go_wp2_with fail
  refine (ended_true w).mono ?_
  rintro e w' ⟨b, c, a, rfl, hb, h1, h2, h3⟩
  go_wp2_with fail
  refine (wait_walk b c (.iface 28 a) w' h1 h2 h3).mono ?_
  rintro e w1 ⟨rfl, rfl⟩
  go_wp2_with fail
  refine (wait_walk b c (.iface 28 a) _ h1 h2 h3).mono ?_
  rintro e w1 ⟨rfl, rfl⟩
  go_wp2_with fail
  go_ret
  exact ⟨rfl, hb⟩
end Go.Proofs.Qxb6609063a.Member
