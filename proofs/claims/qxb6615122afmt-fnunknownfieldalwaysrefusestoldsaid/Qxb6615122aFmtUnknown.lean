import Derived.Test.Qxb6615122aFmtQuoted
namespace Go.Proofs.Qxb6615122aFmt
open Go.RowKit Go.Extern.Stop Go.Stop Go.Extern

attribute [local go_sem] Tryf.call13 Tryf.call11 Tryf.guard Tryf.fmtq Tryf.fmtqr Tryf.fmtl Tryf.fmtlr Tryf.op9_113 Tryf.op9_115 Tryf.op9_115w Tryf.ptr36 Tryf.elem36 Tryf.isError36

/-- An error that is not nil. -/
def IsErr (e : Ending) : Prop := ∃ v, e = .returned (.iface 36 v)

set_option maxRecDepth 100000 in
set_option maxHeartbeats 2000000 in
theorem unknown_walk (F : Interp) (s t : ByteArray) (a : Option Addr) (c : Nat) (xs : List ByteArray) (w : World) (hF : F.answers w.tape) (hC : Cols w a xs) (hs : s.size + t.size ≤ 1048576) (hn : xs.length ≤ 1048576) (ht : tot xs ≤ 1048576) (hq : ∀ x ∈ xs, (qText F x).size ≤ 10 * x.size + 2) :
    Calls Tryf.prog 7 #[.string s, .string t, .slice a xs.length c] w fun e w' => IsErr e ∧ Below w.heap.size w w' := by
  have HC := hideIt hC
  have HQ := hideIt hq
  have HF := hideIt hF
  clear hC hq hF
  go_enter Tryf.func7, Tryf.ntmps7
  go_wp2_with fail
  refine (joinp_walk s t hs _).mono ?_
  rintro e w1 ⟨⟨s1, rfl, hs1⟩, rfl⟩
  go_wp2_with fail
  refine (quoted_walk F a c xs _ HF.out HC.out hn ht HQ.out).mono ?_
  rintro e w2 ⟨⟨s2, rfl, hs2⟩, hB2⟩
  have hF2 : F.answers w2.tape := by rw [hB2.tape]; exact HF.out
  have hF' := answers_open hF2
  go_wp2_with go_in
  go_ret
  exact ⟨⟨_, rfl⟩, ((hB2.alloc hB2.size _).alloc (by simp; have := hB2.size; omega) _).drew⟩

set_option maxRecDepth 100000 in
set_option maxHeartbeats 2000000 in
theorem zzunknown_walk (F : Interp) (s t : ByteArray) (a : Option Addr) (c : Nat) (xs : List ByteArray) (w : World) (hF : F.answers w.tape) (hC : Cols w a xs) (hs : s.size + t.size ≤ 1048576) (hn : xs.length ≤ 1048576) (ht : tot xs ≤ 1048576) (hq : ∀ x ∈ xs, (qText F x).size ≤ 10 * x.size + 2) :
    Calls Tryf.prog 6 #[.string s, .string t, .slice a xs.length c] w fun e w' => IsErr e ∧ Below w.heap.size w w' := by
  have HC := hideIt hC
  have HQ := hideIt hq
  have HF := hideIt hF
  clear hC hq hF
  go_enter Tryf.func6, Tryf.ntmps6
  go_wp2_with fail
  refine (unknown_walk F s t a c xs w HF.out HC.out hs hn ht HQ.out).mono ?_
  rintro e w1 ⟨⟨v, rfl⟩, hB⟩
  go_wp2_with fail
  go_ret
  exact ⟨⟨_, rfl⟩, hB⟩
end Go.Proofs.Qxb6615122aFmt
