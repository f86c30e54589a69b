import Derived.Test.Qxb6614843aCut
import Derived.Test.Qxb6614843aPlainDec
import Derived.Laws.BytesArg
namespace Go.Proofs.Qxb6614843a
open Go.RowKit

/-- The constant "leafwise.index." of the Go text. -/
abbrev preS : ByteArray := { data := #[108, 101, 97, 102, 119, 105, 115, 101, 46, 105, 110, 100, 101, 120, 46] }
theorem preS_eq {k : Nat} {x : UInt8} (hx : pre15[k]? = some x) (hs : k < preS.size) : ((x.toNat : Int) != ((preS[k]'hs).toNat : Int)) = false := by
  obtain ⟨h, e⟩ := List.getElem?_eq_some_iff.1 hx
  have e2 : preS[k]'hs = pre15[k]'h := rfl
  rw [e2, e]
  simp
theorem info9 : (Try.prog.info? 9).map (fun i => (i.zero, i.size, i.bytes)) = some (some (.string ⟨#[]⟩), 1, 16) := by kernel_rfl
theorem preS_get {k : Nat} (h : k < 15) : ∃ x : UInt8, pre15[k]? = some x := ⟨_, List.getElem?_eq_getElem (by simpa [pre15] using h)⟩

/-- What decodeIndexName gives back. -/
def DecOk (s : ByteArray) (xs : List ByteArray) (w w' : World) (e : Ending) : Prop :=
  ∃ a d, e = .returned (.tuple #[.string s, .slice a xs.length d, .bool true]) ∧ Cols w' a xs ∧ Below w.heap.size w w'
theorem conv_at (W : World) (g o len cap : Nat) (l : List UInt8) (hl : l.length = len) (h : ∀ i x, l[i]? = some x → W.cell? ⟨g, o + i, none⟩ = some (.int .u8 x.toNat)) :
    (convert 27 9 (.slice (some ⟨g, o, none⟩) len cap)).run Try.prog W = .ok (.string ⟨l.toArray⟩) W := by
  have := run_convert_bytes_arg (P := Try.prog) W 27 5 Try.underlying27 Try.underlying5 g o len cap (numsOf l) (by simp [numsOf, hl]) (fun i hi => by
    rw [h i _ (getb (by omega))]
    simp [numsOf, List.getD_eq_getElem?_getD, List.getElem?_eq_getElem (show i < l.length by omega)]) 9 Try.underlying9
  rw [this]
  simp [strOfNums, numsOf, List.map_map, Function.comp_def]
theorem cols_nil {t : List UInt8} {xs : List ByteArray} (hd : docd t (lsts xs)) (h : Lib.join (lsts xs) [44] = []) : xs = [] := by
  cases xs with
  | nil => rfl
  | cons x xs => exact absurd h (join_ne_nil (hd.2 (bts x) (by simp [lsts])).1 _)

theorem cols_pos {xs : List ByteArray} {q : Nat} (h : (Lib.join (lsts xs) [44]).length = q) (hq : 0 < q) : 0 < xs.length := by
  cases xs with
  | nil => simp [lsts, Lib.join_nil] at h; omega
  | cons x xs => simp
/-- The strings as cells. -/
def strC (xs : List ByteArray) : List Value := xs.map Value.string
theorem strC_snoc {xs : List ByteArray} {m : Nat} (h : m < xs.length) : strC (xs.take m) ++ [.string xs[m]] = strC (xs.take (m + 1)) := by
  rw [List.take_succ_eq_append_getElem h]
  simp only [strC, List.map_append, List.map_cons, List.map_nil]
theorem owns_cols {w : World} {base : Nat} {v : Value} {xs : List ByteArray} (h : w.ownsRow base 9 1 v xs.length (strC xs)) (h0 : 0 < xs.length) :
    ∃ g cap, v = .slice (some ⟨g, 0, none⟩) xs.length cap ∧ Cols w (some ⟨g, 0, none⟩) xs := by
  rcases h.2 with ⟨_, h1⟩ | ⟨g', cap', cur, hv, hg, hh, hn, hc, hs, ht⟩
  · omega
  · refine ⟨g', cap', hv, .inr ⟨g', 0, rfl, (Array.getElem?_eq_some_iff.1 hh).1, fun j x hx => ?_⟩⟩
    have hj : j < xs.length := (List.getElem?_eq_some_iff.1 hx).1
    rw [Nat.zero_add]
    simp only [World.cell?, hh]
    have h1 : (cur.toList.take (xs.length * 1))[j]? = (strC xs)[j]? := by rw [ht]
    rw [List.getElem?_take_of_lt (by omega)] at h1
    simp only [strC, List.getElem?_map, hx, Option.map_some, Array.getElem?_toList] at h1
    exact h1
theorem one_cell {w : World} {x : Value} {t : TypeId} {j : Nat} {u : Value} (hj : [x][j]? = some u) : (w.alloc (.cells #[x] t)).cell? ((⟨w.heap.size, 0, none⟩ : Addr).add j) = some u := by
  cases j with
  | zero => simp at hj; subst hj; simp [Addr.add]
  | succ j => simp at hj
/-- The state of the loop that cuts the columns out: m columns are out; the text from stn on is the rest's; or all are out. -/
def Rel4 (xs : List ByteArray) (q : Nat) (W0 : World) (out st i : Value) (W : World) : Prop :=
  (∃ (m j stn k : Nat) (hm : m < xs.length), j ≤ (xs[m]'hm).size ∧ stn ≤ q ∧ st = .int .i64 stn ∧ i = .int .i64 k ∧ k = stn + j ∧ (Lib.join (lsts xs) [44]).drop stn = Lib.join ((lsts xs).drop m) [44] ∧ W.ownsRow W0.heap.size 9 1 out m (strC (xs.take m)) ∧ Below W0.heap.size W0 W) ∨
  (∃ stn : Nat, st = .int .i64 stn ∧ i = .int .i64 (q + 1 : Nat) ∧ W.ownsRow W0.heap.size 9 1 out xs.length (strC xs) ∧ Below W0.heap.size W0 W)
theorem rel4_start (xs : List ByteArray) (q : Nat) (W0 W : World) (v : Value) (hJ : (Lib.join (lsts xs) [44]).length = q) (hq : 0 < q) (hown : W.ownsRow W0.heap.size 9 1 v 0 []) (hB : Below W0.heap.size W0 W) : Rel4 xs q W0 v (.int .i64 0) (.int .i64 0) W :=
  .inl ⟨0, 0, 0, 0, cols_pos hJ hq, Nat.zero_le _, Nat.zero_le _, rfl, rfl, rfl, rfl, hown, hB⟩

set_option maxRecDepth 100000 in
set_option maxHeartbeats 4000000 in
theorem dec_walk (s : ByteArray) (xs : List ByteArray) (hd : docd (bts s) (lsts xs)) (g c : Nat) (w : World) (hb : Byts w (some ⟨g, 0, none⟩) (nameL (bts s) (lsts xs))) (hc : (nameL (bts s) (lsts xs)).length ≤ c) (hcm : c ≤ maxLen) (hsz : s.size + xs.length + tot xs ≤ 1048576) :
    Calls Try.prog 17 #[.slice (some ⟨g, 0, none⟩) (nameL (bts s) (lsts xs)).length c] w fun e w' => DecOk s xs w w' e := by
  have hlen := lenJoin xs
  have hnl := name_length (bts s) (lsts xs)
  rw [size_bts] at hnl
  have hgw : g < w.heap.size := by
    rcases hb with h | ⟨bk, o, ha, hlt, h⟩
    · rw [h] at hnl; simp at hnl; omega
    · cases ha; exact hlt
  have hcell : ∀ j x, (nameL (bts s) (lsts xs))[j]? = some x → w.cell? ⟨g, j, none⟩ = some (.int .u8 x.toNat) := by
    rcases hb with h | ⟨bk, o, ha, _, h⟩
    · rw [h] at hnl; simp at hnl; omega
    · cases ha
      intro j x hx
      have := h j x hx
      rwa [Nat.zero_add] at this
  generalize hn : (nameL (bts s) (lsts xs)).length = n at *
  generalize hJ : (Lib.join (lsts xs) [44]).length = q at *
  have HC := hideIt hcell
  have HD := hideIt hd
  have HJ := hideIt hJ
  have hn16 : 16 ≤ n := by omega
  have hn20 : n ≤ 1048592 := by omega
  have HNL := hideIt hnl
  clear hcell hd hJ hn hb hnl
  unfold maxLen at hcm
  go_enter Try.func17, Try.ntmps17
  go_wp2
  go_loopw [5] (fun i W => ∃ k m : Nat, k ≤ 15 ∧ i = .int .i64 k ∧ W = w.drewN m) (fun i _ => 15 - (intOf i).toNat)
  case atStart => exact ⟨0, 0, Nat.zero_le _, rfl, rfl⟩
  case round =>
    obtain ⟨k, m, hk, rfl, rfl⟩ := hrel
    by_cases hlt : k < 15
    · obtain ⟨x, hx⟩ := preS_get hlt
      have hck := HC.out k x (by rw [name_head hlt]; exact hx)
      have hkI : (k : Int) < (n : Int) := by omega
      have hkI' : (k : Int) < 15 := by omega
      have hbe := preS_eq hx hlt
      clear hx
      go_wp2
      go_quiet (fail)
      go_wp2
      go_roundw
      case rel => exact ⟨k + 1, _, by omega, by go_num, rfl⟩
      case measure => simp [intOf]; omega
    · have hB0 : Below w.heap.size w (w.drewN m) := below_drewN (Below.refl _ _) m
      have HC0 : Hid (∀ j x, (restL (bts s) (lsts xs))[j]? = some x → (w.drewN m).cell? ⟨g, 15 + j, none⟩ = some (.int .u8 x.toNat)) := fun j x hx => HC.out (15 + j) x (by rw [name_at]; exact hx)
      generalize w.drewN m = W0 at *
      clear HC
      go_wp2
      go_loop [7, 8] (fun dot i => ∃ j : Nat, j ≤ s.size ∧ i = .int .i64 j ∧ dot = .int .i64 (-1)) (fun _ i => s.size - (intOf i).toNat)
      case atStart => exact ⟨0, Nat.zero_le _, rfl, rfl⟩
      case round =>
        obtain ⟨j, hj, rfl, rfl⟩ := hrel
        have hnq : n = 15 + (s.size + 1 + q) := HNL.out
        have hjI : (j : Int) < (n : Int) - 15 := by omega
        clear hnq
        by_cases hjs : j < s.size
        · have hcj := HC0.out j _ (rest_table (t := bts s) (by rw [size_bts]; exact hjs))
          have hne : (((bts s)[j]'(by rw [size_bts]; exact hjs)).toNat : Int) ≠ 46 := by
            intro e
            have := (HD.out.1 _ (List.getElem_mem (show j < (bts s).length by rw [size_bts]; exact hjs))).1
            exact this (UInt8.toNat_inj.1 (by simpa using Int.ofNat_inj.1 e))
          generalize ((bts s)[j]'(by rw [size_bts]; exact hjs)) = x at *
          have hbe : ((x.toNat : Int) == 46) = false := by simpa using hne
          clear hne
          go_wp2
          go_round
          case rel => exact ⟨j + 1, by omega, by go_num, rfl⟩
          case measure => simp [intOf]; omega
        · obtain rfl : j = s.size := by omega
          have hcj := HC0.out s.size 46 (by rw [← size_bts]; exact rest_dot)
          have hcv : (convert 27 9 (.slice (some ⟨g, 15, none⟩) s.size (c - 15))).run Try.prog W0 = .ok (.string s) W0 := by
            rw [conv_at W0 g 15 s.size (c - 15) (bts s) (size_bts s) (fun i x hx => HC0.out i x (by
              obtain ⟨h1, h2⟩ := List.getElem?_eq_some_iff.1 hx
              rw [rest_table h1, h2]))]
          rcases Nat.eq_zero_or_pos q with hq | hq
          · have hnq : Hid (n = 15 + (s.size + 1 + q)) := HNL
            have hx0 : xs = [] := by
              have := HJ.out
              rw [hq] at this
              exact cols_nil HD.out (List.eq_nil_of_length_eq_zero this)
            have hn' : n - 15 = s.size + 1 := by have := HNL.out; omega
            have hcol : n - 15 - (s.size + 1) = 0 := by omega
            subst hx0
            go_wp2
            all_goals
              go_ret3
              exact ⟨none, 0, rfl, .inl rfl, hB0⟩
          · have hn' : n - 15 = s.size + 1 + q := by have := HNL.out; omega
            have hne : ¬ c - 15 = s.size + 1 := by have := HNL.out; omega
            have hqI : ((q : Int) == 0) = false := by simp; omega
            have hc' : s.size + 1 + q ≤ c - 15 := by omega
            have HCJ : Hid (∀ j x, (Lib.join (lsts xs) [44])[j]? = some x → W0.cell? ⟨g, 15 + (s.size + 1) + j, none⟩ = some (.int .u8 x.toNat)) := fun j x hx => by
              have := HC0.out (s.size + 1 + j) x (by rw [← size_bts, rest_cols]; exact hx)
              rwa [← Nat.add_assoc] at this
            go_wp2
            have hcc : q ≤ c - 15 - (s.size + 1) := by omega
            have hq1 : 0 < q := hq
            have hx1 : 0 < xs.length := cols_pos HJ.out hq
            clear hcv hcj hne hqI hc' hn' hjI hjs hj HC0 hlt hk hq
            generalize 15 + (s.size + 1) = off at *
            generalize c - 15 - (s.size + 1) = cc at *
            go_loop [11, 12] (fun z i => ∃ k u : Nat, k ≤ q ∧ i = .int .i64 k ∧ z = .int .i64 u ∧ u ≤ k + 1) (fun _ i => q - (intOf i).toNat)
            case atStart => exact ⟨0, 1, Nat.zero_le _, rfl, rfl, by omega⟩
            case round =>
              obtain ⟨j, u, hj, rfl, rfl, hu⟩ := hrel
              by_cases hjq : j < q
              · have hjJ : j < (Lib.join (lsts xs) [44]).length := by rw [HJ.out]; exact hjq
                have hcj := HCJ.out j _ (getb hjJ)
                generalize (Lib.join (lsts xs) [44])[j] = x at *
                clear hjJ
                go_wp2
                · go_round
                  case rel => exact ⟨j + 1, u + 1, by omega, by go_num, by go_num, by omega⟩
                  case measure => simp [intOf]; omega
                · go_round
                  case rel => exact ⟨j + 1, u, by omega, by go_num, by go_num, by omega⟩
                  case measure => simp [intOf]; omega
              · obtain ⟨i9, hi, hz0, hz1, hz2⟩ := info_parts info9
                go_wp2_with (at_make; refine wpList_make_own _ rfl _ _ 22 rfl W0.heap.size 9 i9 (.string ⟨#[]⟩) 1 Try.underlying22 hi hz0 hz1 _ _ _ u rfl rfl (by omega) (by rw [hz2]; omega) (by unfold maxLen; omega) (Nat.le_refl _) ?_)
                intro w2 hown2 hgr2
                have hB2 : Below W0.heap.size W0 w2 := (Below.refl _ _).grown hgr2 (Nat.le_refl _) (fun k hk => by cases hk)
                have hg0 : g < W0.heap.size := Nat.lt_of_lt_of_le hgw hB0.size
                have H0 := hideIt (rel4_start xs q W0 w2 _ HJ.out hq1 hown2 hB2)
                clear hown2 hgr2
                go_wp2_with fail
                go_loopw [13, 14, 15] (fun out st i W => Rel4 xs q W0 out st i W) (fun _ _ i _ => q + 1 - (intOf i).toNat)
                case atStart => exact H0.out
                case round =>
                  clear H0
                  rcases hrel with ⟨m, j, stn, k, hm, hj, hst, rfl, rfl, hk, hdrop, hown, hBr⟩ | ⟨stn, rfl, rfl, hown, hBr⟩
                  · have hcs : m < (lsts xs).length := by simpa [lsts] using hm
                    have hsize : ((lsts xs)[m]'hcs).length = xs[m].size := by simp [lsts, bts]
                    have hget : (lsts xs)[m]'hcs = bts xs[m] := by simp [lsts]
                    have hle := le_len hdrop hcs (by rw [HJ.out]; exact hst)
                    rw [hsize, HJ.out] at hle
                    have hdoc := HD.out.2 (bts xs[m]) (by simp only [lsts]; exact List.mem_map.2 ⟨_, List.getElem_mem hm, rfl⟩)
                    have hpos : 0 < xs[m].size := by
                      rw [← size_bts]
                      exact List.length_pos_iff.2 hdoc.1
                    have hcW : Hid (∀ i x, (Lib.join (lsts xs) [44])[i]? = some x → wr.cell? ⟨g, off + i, none⟩ = some (.int .u8 x.toNat)) := fun i x hx => (hBr.cell (p := ⟨g, off + i, none⟩) hg0).trans (HCJ.out i x hx)
                    have hmt : m < 1048577 := by omega
                    rcases Nat.lt_or_ge j xs[m].size with hjlt | hjge
                    · have hx := at_char hdrop hcs (j := j) (by rw [hsize]; exact hjlt)
                      have hx44 : ((lsts xs)[m]'hcs)[j]'(by rw [hsize]; exact hjlt) ≠ 44 := by
                        have := List.getElem_mem (l := (lsts xs)[m]'hcs) (n := j) (by rw [hsize]; exact hjlt)
                        exact (hdoc.2 _ (by rw [← hget]; exact this)).2
                      generalize ((lsts xs)[m]'hcs)[j]'(by rw [hsize]; exact hjlt) = x at *
                      have hcj := hcW.out (stn + j) x hx
                      rw [← hk] at hcj
                      have hkq : k < q := by omega
                      have hbe : ((x.toNat : Int) == 44) = false := by
                        rw [beq_eq_false_iff_ne]
                        intro e
                        exact hx44 (UInt8.toNat_inj.1 (by simpa using Int.ofNat_inj.1 e))
                      have hbq : ((k : Int) == (q : Int)) = false := by rw [beq_eq_false_iff_ne]; omega
                      have H1 : Hid (Rel4 xs q W0 u13 (.int .i64 stn) (.int .i64 ((k : Int) + 1)) wr) := .inl ⟨m, j + 1, stn, k + 1, hm, by omega, hst, rfl, by go_num, by omega, hdrop, hown, hBr⟩
                      clear hx hx44 hdrop hown hk hsize hget hdoc
                      go_wp2_with fail
                      go_roundw
                      case rel => exact H1.out
                      case measure => simp [intOf]; omega
                    · have hjs : j = xs[m].size := by omega
                      have hks : k = stn + xs[m].size := by omega
                      have hcv : (convert 27 9 (.slice (some ⟨g, off + stn, none⟩) (k - stn) (cc - stn))).run Try.prog wr = .ok (.string xs[m]) wr := by
                        rw [conv_at wr g (off + stn) (k - stn) (cc - stn) (bts xs[m]) (by rw [size_bts]; omega) (fun i x hx => by
                          have h1 := (List.getElem?_eq_some_iff.1 hx)
                          have h2 := at_char hdrop hcs (j := i) (by rw [hsize, ← size_bts]; exact h1.1)
                          have h3 := hcW.out (stn + i) _ h2
                          rw [← Nat.add_assoc] at h3
                          rw [h3, ← h1.2]
                          simp [lsts])]
                      have hne : ¬ cc = stn := by omega
                      have hsk : stn ≤ k := by omega
                      rcases Nat.lt_or_ge (m + 1) xs.length with hm1 | hm1
                      · obtain ⟨hx, hdrop'⟩ := at_comma hdrop (by simpa [lsts] using hm1)
                        rw [hsize, ← hks] at hx hdrop'
                        have hcj := hcW.out k 44 hx
                        have hkq : k < q := by rw [← HJ.out]; exact (List.getElem?_eq_some_iff.1 hx).1
                        have hbq : ((k : Int) == (q : Int)) = false := by rw [beq_eq_false_iff_ne]; omega
                        have HDR := hideIt hdrop'
                        clear hx hdrop hdrop' hk hsize hget hdoc hjs hks hjge hle hj hpos
                        go_wp2_with (at_builtin; refine wpList_append_own _ rfl _ _ 22 rfl W0.heap.size 9 i9 (.string ⟨#[]⟩) 1 16 Try.underlying22 hi hz0 hz1 hz2 rfl (by decide) _ _ _ rfl (hown.alloc _) _ 1 1 [.string xs[m]] rfl rfl ?c1 ?c2 ?c3 ?c4 ?c5 ?_)
                        case c1 => intro j u hj; exact one_cell hj
                        case c2 => intro u hu; simp at hu; rw [hu]; rfl
                        case c3 => unfold maxLen; omega
                        case c4 => omega
                        case c5 => simp; have := hBr.size; omega
                        intro v' w3 hown3 hgr3 hnil3
                        have hB3 : Below W0.heap.size W0 w3 := (hBr.alloc hBr.size _).grown hgr3 (by simp; have := hBr.size; omega) (fun k hk => (hown.lt k hk).1)
                        rw [strC_snoc hm] at hown3
                        clear hnil3 hgr3 hcv
                        have H1 : Hid (Rel4 xs q W0 v' (.int .i64 ((k : Int) + 1)) (.int .i64 ((k : Int) + 1)) w3) := .inl ⟨m + 1, 0, k + 1, k + 1, hm1, Nat.zero_le _, by omega, by go_num, by go_num, by omega, HDR.out, hown3, hB3⟩
                        go_wp2_with fail
                        go_roundw
                        case rel => exact H1.out
                        case measure => simp [intOf]; omega
                      · have hkq := at_end hdrop hcs (by rw [HJ.out]; exact hst) (by simp [lsts]; omega)
                        rw [hsize, HJ.out, ← hks] at hkq
                        have hxl : Hid (xs.length = m + 1) := by show _ = _; omega
                        clear hdrop hk hsize hget hdoc hjs hks hjge hle hj hpos hm1
                        subst hkq
                        go_wp2_with (at_builtin; refine wpList_append_own _ rfl _ _ 22 rfl W0.heap.size 9 i9 (.string ⟨#[]⟩) 1 16 Try.underlying22 hi hz0 hz1 hz2 rfl (by decide) _ _ _ rfl (hown.alloc _) _ 1 1 [.string xs[m]] rfl rfl ?c1 ?c2 ?c3 ?c4 ?c5 ?_)
                        case c1 => intro j u hj; exact one_cell hj
                        case c2 => intro u hu; simp at hu; rw [hu]; rfl
                        case c3 => unfold maxLen; omega
                        case c4 => omega
                        case c5 => simp; have := hBr.size; omega
                        intro v' w3 hown3 hgr3 hnil3
                        have hB3 : Below W0.heap.size W0 w3 := (hBr.alloc hBr.size _).grown hgr3 (by simp; have := hBr.size; omega) (fun k hk => (hown.lt k hk).1)
                        rw [strC_snoc hm] at hown3
                        clear hnil3 hgr3 hcv
                        have H1 : Hid (Rel4 xs k W0 v' (.int .i64 ((k : Int) + 1)) (.int .i64 ((k : Int) + 1)) w3) := by
                          refine .inr ⟨k + 1, by go_num, by go_num, ?_, hB3⟩
                          rw [← hxl.out, List.take_of_length_le (Nat.le_refl _)] at hown3
                          exact hown3
                        go_wp2_with fail
                        go_roundw
                        case rel => exact H1.out
                        case measure => simp [intOf]
                  · have hx0 : 0 < xs.length := hx1
                    obtain ⟨g', cap, rfl, hcols⟩ := owns_cols hown hx0
                    have HF := hideIt hcols
                    clear hcols hown
                    go_wp2_with fail
                    go_ret3
                    exact ⟨_, _, rfl, HF.out, hB0.trans (hBr.mono hB0.size)⟩
end Go.Proofs.Qxb6614843a
