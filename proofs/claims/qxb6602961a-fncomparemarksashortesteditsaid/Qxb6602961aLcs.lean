/- THE PLAIN MATHEMATICS, FIRST PART: longest common subsequences of two number sequences, by the two-row table, and the laws of the edit distance that follow. No Go in sight. -/
namespace Go.Proofs.Qxb6602961a.Myers
set_option linter.unusedVariables false

/-- k is the length of a longest common subsequence of u and v -/
def IsL (u v : List Int) (k : Nat) : Prop :=
  (∃ c : List Int, c.Sublist u ∧ c.Sublist v ∧ c.length = k) ∧ ∀ c : List Int, c.Sublist u → c.Sublist v → c.length ≤ k

theorem IsL.uniq {u v : List Int} {k l : Nat} (h : IsL u v k) (h' : IsL u v l) : k = l := by
  obtain ⟨⟨c, a, b, rfl⟩, m⟩ := h
  obtain ⟨⟨d, a', b', rfl⟩, m'⟩ := h'
  have := m d a' b'
  have := m' c a b
  omega
theorem IsL.nil_left (v : List Int) : IsL [] v 0 :=
  ⟨⟨[], List.nil_sublist _, List.nil_sublist _, rfl⟩, fun c h _ => by simp [List.sublist_nil.1 h]⟩
theorem IsL.nil_right (u : List Int) : IsL u [] 0 :=
  ⟨⟨[], List.nil_sublist _, List.nil_sublist _, rfl⟩, fun c _ h => by simp [List.sublist_nil.1 h]⟩
theorem IsL.le_left {u v : List Int} {k : Nat} (h : IsL u v k) : k ≤ u.length := by
  obtain ⟨⟨c, a, b, rfl⟩, m⟩ := h
  exact a.length_le
theorem IsL.le_right {u v : List Int} {k : Nat} (h : IsL u v k) : k ≤ v.length := by
  obtain ⟨⟨c, a, b, rfl⟩, m⟩ := h
  exact b.length_le
/-- two pieces behind one another -/
theorem IsL.cat {u v u' v' : List Int} {k l r : Nat} (h : IsL u v k) (h' : IsL u' v' l) (hr : IsL (u ++ u') (v ++ v') r) : k + l ≤ r := by
  obtain ⟨⟨c, a, b, rfl⟩, _⟩ := h
  obtain ⟨⟨d, a', b', rfl⟩, _⟩ := h'
  have := hr.2 (c ++ d) (List.Sublist.append a a') (List.Sublist.append b b')
  simpa using this

/-- what a sublist of a snoc is -/
theorem sub_snoc {c u : List Int} {x : Int} (h : c.Sublist (u ++ [x])) : c.Sublist u ∨ ∃ d, c = d ++ [x] ∧ d.Sublist u := by
  obtain ⟨c1, c2, rfl, h1, h2⟩ := List.sublist_append_iff.1 h
  cases c2 with
  | nil => left; simpa using h1
  | cons z t =>
    right
    have hl := h2.length_le
    have ht : t = [] := by
      cases t with
      | nil => rfl
      | cons _ _ => simp at hl
    subst ht
    have : z = x := by simpa using h2
    subst this
    exact ⟨c1, rfl, h1⟩
theorem sub_cons {c u : List Int} {x : Int} (h : c.Sublist (x :: u)) : c.Sublist u ∨ ∃ d, c = x :: d ∧ d.Sublist u := by
  cases h with
  | cons _ h => exact .inl h
  | cons_cons _ h => exact .inr ⟨_, rfl, h⟩

theorem IsL.snoc_eq {u v : List Int} {k : Nat} (x : Int) (h : IsL u v k) : IsL (u ++ [x]) (v ++ [x]) (k + 1) := by
  obtain ⟨⟨c, a, b, rfl⟩, m⟩ := h
  refine ⟨⟨c ++ [x], List.Sublist.append a (List.Sublist.refl _), List.Sublist.append b (List.Sublist.refl _), by simp⟩, ?_⟩
  intro d h1 h2
  rcases sub_snoc h1 with g1 | ⟨e, rfl, g1⟩
  · rcases sub_snoc h2 with g2 | ⟨e, rfl, g2⟩
    · have := m d g1 g2; omega
    · have := m e ((List.sublist_append_left e [x]).trans g1) g2
      simp; omega
  · rcases sub_snoc h2 with g2 | ⟨e', he, g2⟩
    · have := m e g1 ((List.sublist_append_left e [x]).trans g2)
      simp; omega
    · have he' : e = e' := by simpa using he
      subst he'
      have := m e g1 g2
      simp; omega
theorem IsL.snoc_ne {u v : List Int} {k l : Nat} {x y : Int} (hxy : x ≠ y) (h1 : IsL u (v ++ [y]) k) (h2 : IsL (u ++ [x]) v l) : IsL (u ++ [x]) (v ++ [y]) (max k l) := by
  constructor
  · by_cases hle : l ≤ k
    · obtain ⟨⟨c, a, b, rfl⟩, m⟩ := h1
      exact ⟨c, a.trans (List.sublist_append_left _ _), b, by omega⟩
    · obtain ⟨⟨c, a, b, rfl⟩, m⟩ := h2
      exact ⟨c, a, b.trans (List.sublist_append_left _ _), by omega⟩
  · intro d g1 g2
    rcases sub_snoc g1 with g1' | ⟨e, rfl, g1'⟩
    · have := h1.2 d g1' g2; omega
    · rcases sub_snoc g2 with g2' | ⟨e', he, g2'⟩
      · have := h2.2 _ g1 g2'; omega
      · exfalso
        have := (List.append_inj' he rfl).2
        simp at this
        exact hxy this
theorem IsL.cons_eq {u v : List Int} {k : Nat} (x : Int) (h : IsL u v k) : IsL (x :: u) (x :: v) (k + 1) := by
  obtain ⟨⟨c, a, b, rfl⟩, m⟩ := h
  refine ⟨⟨x :: c, List.Sublist.cons_cons _ a, List.Sublist.cons_cons _ b, by simp⟩, ?_⟩
  intro d h1 h2
  rcases sub_cons h1 with g1 | ⟨e, rfl, g1⟩
  · rcases sub_cons h2 with g2 | ⟨e, rfl, g2⟩
    · have := m d g1 g2; omega
    · have := m e ((List.sublist_cons_self x e).trans g1) g2
      simp; omega
  · rcases sub_cons h2 with g2 | ⟨e', he, g2⟩
    · have := m e g1 ((List.sublist_cons_self x e).trans g2)
      simp; omega
    · have he' : e = e' := by simpa using he
      subst he'
      have := m e g1 g2
      simp; omega
theorem IsL.cons_ne {u v : List Int} {k l : Nat} {x y : Int} (hxy : x ≠ y) (h1 : IsL u (y :: v) k) (h2 : IsL (x :: u) v l) : IsL (x :: u) (y :: v) (max k l) := by
  constructor
  · by_cases hle : l ≤ k
    · obtain ⟨⟨c, a, b, rfl⟩, m⟩ := h1
      exact ⟨c, a.trans (List.sublist_cons_self _ _), b, by omega⟩
    · obtain ⟨⟨c, a, b, rfl⟩, m⟩ := h2
      exact ⟨c, a, b.trans (List.sublist_cons_self _ _), by omega⟩
  · intro d g1 g2
    rcases sub_cons g1 with g1' | ⟨e, rfl, g1'⟩
    · have := h1.2 d g1' g2; omega
    · rcases sub_cons g2 with g2' | ⟨e', he, g2'⟩
      · have := h2.2 _ g1 g2'; omega
      · exfalso
        have := (List.cons.inj he).1
        exact hxy this
/-- a step along the diagonal takes at most one from it -/
theorem IsL.diag_snoc {u v : List Int} {k l : Nat} {x y : Int} (h : IsL u v k) (h2 : IsL (u ++ [x]) (v ++ [y]) l) : l ≤ k + 1 := by
  obtain ⟨⟨c, a, b, rfl⟩, _⟩ := h2
  by_cases hc : c = []
  · subst hc; simp
  · have a' : (c.dropLast).Sublist u := by
      rcases sub_snoc a with g | ⟨d, rfl, g⟩
      · exact (List.dropLast_sublist c).trans g
      · simpa using g
    have b' : (c.dropLast).Sublist v := by
      rcases sub_snoc b with g | ⟨d, rfl, g⟩
      · exact (List.dropLast_sublist c).trans g
      · simpa using g
    have := h.2 _ a' b'
    simp at this
    omega
theorem IsL.diag_cons {u v : List Int} {k l : Nat} {x y : Int} (h : IsL u v k) (h2 : IsL (x :: u) (y :: v) l) : l ≤ k + 1 := by
  obtain ⟨⟨c, a, b, rfl⟩, _⟩ := h2
  have a' : c.tail.Sublist u := by
    rcases sub_cons a with g | ⟨d, rfl, g⟩
    · exact (List.tail_sublist c).trans g
    · simpa using g
  have b' : c.tail.Sublist v := by
    rcases sub_cons b with g | ⟨d, rfl, g⟩
    · exact (List.tail_sublist c).trans g
    · simpa using g
  have := h.2 _ a' b'
  simp at this
  omega

/-- i numbers of f from x on -/
def seg (f : Nat → Int) (x i : Nat) : List Int := (List.range i).map fun t => f (x + t)
theorem seg_zero (f : Nat → Int) (x : Nat) : seg f x 0 = [] := rfl
theorem seg_len (f : Nat → Int) (x i : Nat) : (seg f x i).length = i := by simp [seg]
theorem seg_snoc (f : Nat → Int) (x i : Nat) : seg f x (i + 1) = seg f x i ++ [f (x + i)] := by simp [seg, List.range_succ]
theorem seg_cat (f : Nat → Int) (x i : Nat) : ∀ j, seg f x (i + j) = seg f x i ++ seg f (x + i) j
  | 0 => by simp [seg_zero]
  | j + 1 => by rw [← Nat.add_assoc, seg_snoc, seg_cat f x i j, seg_snoc, List.append_assoc, Nat.add_assoc]
theorem seg_cons (f : Nat → Int) (x i : Nat) : seg f x (i + 1) = f x :: seg f (x + 1) i := by
  rw [Nat.add_comm i 1, seg_cat f x 1 i]; simp [seg]

/-- one row of the table out of the row above it -/
def row (c : Int) (g : Nat → Int) (p : Nat → Nat) : Nat → Nat
  | 0 => 0
  | j + 1 => if c = g j then p j + 1 else max (p (j + 1)) (row c g p j)
/-- the table: the longest common subsequence of the first i of f and the first j of g -/
def tab (f g : Nat → Int) : Nat → Nat → Nat
  | 0 => fun _ => 0
  | i + 1 => row (f i) g (tab f g i)

/-- the longest common subsequence of f's i numbers from x on and g's j from y on -/
def lc (f g : Nat → Int) (x y i j : Nat) : Nat := tab (fun t => f (x + t)) (fun t => g (y + t)) i j

theorem lc_is (f g : Nat → Int) (x y : Nat) : ∀ i j, IsL (seg f x i) (seg g y j) (lc f g x y i j)
  | 0, j => by rw [seg_zero]; exact IsL.nil_left _
  | i + 1, 0 => by rw [seg_zero]; exact IsL.nil_right _
  | i + 1, j + 1 => by
    have h1 := lc_is f g x y i j
    have h2 := lc_is f g x y i (j + 1)
    have h3 := lc_is f g x y (i + 1) j
    show IsL _ _ (if f (x + i) = g (y + j) then lc f g x y i j + 1 else max (lc f g x y i (j + 1)) (lc f g x y (i + 1) j))
    by_cases h : f (x + i) = g (y + j)
    · rw [if_pos h, seg_snoc, seg_snoc, h]
      exact h1.snoc_eq _
    · rw [if_neg h]
      rw [seg_snoc] at h2 h3 ⊢
      rw [seg_snoc]
      exact IsL.snoc_ne h h2 h3

section
variable (f g : Nat → Int) (x y i j : Nat)
theorem lc_zero_left : lc f g x y 0 j = 0 := rfl
theorem lc_zero_right : lc f g x y i 0 = 0 := (lc_is f g x y i 0).uniq (by rw [seg_zero]; exact IsL.nil_right _)
theorem lc_match (h : f (x + i) = g (y + j)) : lc f g x y (i + 1) (j + 1) = lc f g x y i j + 1 := by
  show (if f (x + i) = g (y + j) then lc f g x y i j + 1 else max (lc f g x y i (j + 1)) (lc f g x y (i + 1) j)) = _
  rw [if_pos h]
theorem lc_miss (h : f (x + i) ≠ g (y + j)) : lc f g x y (i + 1) (j + 1) = max (lc f g x y i (j + 1)) (lc f g x y (i + 1) j) := by
  show (if f (x + i) = g (y + j) then lc f g x y i j + 1 else max (lc f g x y i (j + 1)) (lc f g x y (i + 1) j)) = _
  rw [if_neg h]
theorem lc_front_match (h : f x = g y) : lc f g x y (i + 1) (j + 1) = lc f g (x + 1) (y + 1) i j + 1 := by
  apply (lc_is f g x y (i + 1) (j + 1)).uniq
  rw [seg_cons, seg_cons, h]
  exact (lc_is f g (x + 1) (y + 1) i j).cons_eq _
theorem lc_front_miss (h : f x ≠ g y) : lc f g x y (i + 1) (j + 1) = max (lc f g (x + 1) y i (j + 1)) (lc f g x (y + 1) (i + 1) j) := by
  apply (lc_is f g x y (i + 1) (j + 1)).uniq
  have h1 := lc_is f g (x + 1) y i (j + 1)
  have h2 := lc_is f g x (y + 1) (i + 1) j
  rw [seg_cons] at h1 h2 ⊢
  rw [seg_cons]
  exact IsL.cons_ne h h1 h2
theorem lc_le_left : lc f g x y i j ≤ i := by have := (lc_is f g x y i j).le_left; rwa [seg_len] at this
theorem lc_le_right : lc f g x y i j ≤ j := by have := (lc_is f g x y i j).le_right; rwa [seg_len] at this
theorem lc_cat (i' j' : Nat) : lc f g x y i j + lc f g (x + i) (y + j) i' j' ≤ lc f g x y (i + i') (j + j') := by
  have h := lc_is f g x y (i + i') (j + j')
  rw [seg_cat, seg_cat] at h
  exact (lc_is f g x y i j).cat (lc_is f g (x + i) (y + j) i' j') h
theorem lc_diag : lc f g x y (i + 1) (j + 1) ≤ lc f g x y i j + 1 := by
  have h := lc_is f g x y (i + 1) (j + 1)
  rw [seg_snoc, seg_snoc] at h
  exact (lc_is f g x y i j).diag_snoc h
theorem lc_front_diag : lc f g x y (i + 1) (j + 1) ≤ lc f g (x + 1) (y + 1) i j + 1 := by
  have h := lc_is f g x y (i + 1) (j + 1)
  rw [seg_cons, seg_cons] at h
  exact (lc_is f g (x + 1) (y + 1) i j).diag_cons h
theorem lc_mono_left : lc f g x y i j ≤ lc f g x y (i + 1) j := by
  have := lc_cat f g x y i j 1 0
  simp only [Nat.add_zero] at this
  omega
theorem lc_mono_right : lc f g x y i j ≤ lc f g x y i (j + 1) := by
  have := lc_cat f g x y i j 0 1
  simp only [Nat.add_zero] at this
  omega
theorem lc_front_mono_left : lc f g (x + 1) y i j ≤ lc f g x y (i + 1) j := by
  have := lc_cat f g x y 1 0 i j
  simp only [Nat.zero_add, Nat.add_zero, Nat.add_comm 1 i] at this
  omega
theorem lc_front_mono_right : lc f g x (y + 1) i j ≤ lc f g x y i (j + 1) := by
  have := lc_cat f g x y 0 1 i j
  simp only [Nat.zero_add, Nat.add_zero, Nat.add_comm 1 j] at this
  omega
end
end Go.Proofs.Qxb6602961a.Myers
