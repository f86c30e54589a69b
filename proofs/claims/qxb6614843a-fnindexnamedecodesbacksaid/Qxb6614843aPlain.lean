import Derived.Lib.Join
namespace Go.Proofs.Qxb6614843a

/-- A name without dots and commas. -/
def plainL (l : List UInt8) : Prop := ∀ c ∈ l, c ≠ 46 ∧ c ≠ 44
/-- The documented rule. -/
def docd (t : List UInt8) (cs : List (List UInt8)) : Prop := plainL t ∧ ∀ c ∈ cs, c ≠ [] ∧ plainL c
/-- "leafwise.index." -/
def pre15 : List UInt8 := [108, 101, 97, 102, 119, 105, 115, 101, 46, 105, 110, 100, 101, 120, 46]
/-- "leafwise." -/
def pre9 : List UInt8 := [108, 101, 97, 102, 119, 105, 115, 101, 46]
/-- The index's name. -/
def nameL (t : List UInt8) (cs : List (List UInt8)) : List UInt8 := pre15 ++ t ++ [46] ++ Lib.join cs [44]

theorem split_first {d : UInt8} : ∀ {a b r s : List UInt8}, d ∉ a → d ∉ b → a ++ d :: r = b ++ d :: s → a = b ∧ r = s
  | [], [], _, _, _, _, h => by simpa using h
  | [], y :: b, _, _, _, hb, h => by
    simp only [List.nil_append, List.cons_append, List.cons.injEq] at h
    exact absurd (by rw [h.1]; simp) hb
  | x :: a, [], _, _, ha, _, h => by
    simp only [List.nil_append, List.cons_append, List.cons.injEq] at h
    exact absurd (by rw [← h.1]; simp) ha
  | x :: a, y :: b, _, _, ha, hb, h => by
    simp only [List.cons_append, List.cons.injEq] at h
    obtain ⟨e1, e2⟩ := split_first (fun hh => ha (List.mem_cons_of_mem _ hh)) (fun hh => hb (List.mem_cons_of_mem _ hh)) h.2
    exact ⟨by rw [h.1, e1], e2⟩

theorem join_two (x y : List UInt8) (r : List (List UInt8)) : Lib.join (x :: y :: r) [44] = x ++ 44 :: Lib.join (y :: r) [44] := by
  rw [Lib.join_cons, Lib.join_cons]
  simp [Lib.joinTail]

theorem join_ne_nil {x : List UInt8} (hx : x ≠ []) (r : List (List UInt8)) : Lib.join (x :: r) [44] ≠ [] := by
  rw [Lib.join_cons]
  intro h
  exact hx (List.append_eq_nil_iff.1 h).1

theorem join_inj : ∀ {cs ds : List (List UInt8)}, (∀ c ∈ cs, c ≠ [] ∧ (44 : UInt8) ∉ c) → (∀ c ∈ ds, c ≠ [] ∧ (44 : UInt8) ∉ c) → Lib.join cs [44] = Lib.join ds [44] → cs = ds
  | [], [], _, _, _ => rfl
  | [], d :: ds, _, hd, h => by
    exact absurd (h.symm.trans (Lib.join_nil _)) (join_ne_nil (hd d (by simp)).1 ds)
  | c :: cs, [], hc, _, h => by
    exact absurd (h.trans (Lib.join_nil _)) (join_ne_nil (hc c (by simp)).1 cs)
  | [c], [d], _, _, h => by
    rw [Lib.join_one, Lib.join_one] at h
    rw [h]
  | [c], d :: e :: ds, hc, _, h => by
    rw [Lib.join_one, join_two] at h
    exact absurd (show (44 : UInt8) ∈ c by rw [h]; simp) (hc c (by simp)).2
  | c :: e :: cs, [d], _, hd, h => by
    rw [Lib.join_one, join_two] at h
    exact absurd (show (44 : UInt8) ∈ d by rw [← h]; simp) (hd d (by simp)).2
  | c :: c' :: cs, d :: d' :: ds, hc, hd, h => by
    rw [join_two, join_two] at h
    obtain ⟨e1, e2⟩ := split_first (hc c (by simp)).2 (hd d (by simp)).2 h
    have e3 := join_inj (cs := c' :: cs) (ds := d' :: ds) (fun x hx => hc x (List.mem_cons_of_mem _ hx)) (fun x hx => hd x (List.mem_cons_of_mem _ hx)) e2
    rw [e1, e3]

theorem plain_dot {l : List UInt8} (h : plainL l) : (46 : UInt8) ∉ l := fun hm => (h _ hm).1 rfl
theorem plain_comma {l : List UInt8} (h : plainL l) : (44 : UInt8) ∉ l := fun hm => (h _ hm).2 rfl

/-- Two names that follow the rule are one exactly when table and columns are one. -/
theorem name_inj {t u : List UInt8} {cs ds : List (List UInt8)} (h1 : docd t cs) (h2 : docd u ds) : nameL t cs = nameL u ds ↔ t = u ∧ cs = ds := by
  constructor
  · intro h
    simp only [nameL, List.append_assoc, List.cons_append, List.nil_append] at h
    have h' := List.append_cancel_left h
    obtain ⟨e1, e2⟩ := split_first (plain_dot h1.1) (plain_dot h2.1) h'
    exact ⟨e1, join_inj (fun c hc => ⟨(h1.2 c hc).1, plain_comma (h1.2 c hc).2⟩) (fun c hc => ⟨(h2.2 c hc).1, plain_comma (h2.2 c hc).2⟩) e2⟩
  · rintro ⟨rfl, rfl⟩
    rfl

/-- How long a joined list is. -/
theorem join_length : ∀ (cs : List (List UInt8)), (Lib.join cs [44]).length ≤ (cs.map List.length).sum + cs.length
  | [] => by simp [Lib.join_nil]
  | [c] => by simp [Lib.join_one]
  | c :: d :: cs => by
    rw [join_two]
    have := join_length (d :: cs)
    simp only [List.length_append, List.length_cons, List.map_cons, List.sum_cons] at this ⊢
    omega
end Go.Proofs.Qxb6614843a
