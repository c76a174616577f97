/- THE PLAIN MATHEMATICS, SECOND PART: the grid of two sequences, distances from its start (P) and to its end (S), and what one step of the search from the start gives; the search from the end is the same on the grid turned round. No Go in sight. -/
import Derived.Test.Qxb6602961aLcs
namespace Go.Proofs.Qxb6602961a.Myers
set_option linter.unusedVariables false

/-- What the search needs to know of the distances P (from the start) and S (to the end) on an n by m grid with matches M and whole distance D. -/
structure Grid (n m : Nat) (M : Nat → Nat → Prop) (P S : Nat → Nat → Int) (D : Int) : Prop where
  p00 : P 0 0 = 0
  snm : S n m = 0
  pnm : P n m = D
  s00 : S 0 0 = D
  sum : ∀ x y, x ≤ n → y ≤ m → D ≤ P x y + S x y
  pm : ∀ x y, x < n → y < m → M x y → P (x + 1) (y + 1) = P x y
  sm : ∀ x y, x < n → y < m → M x y → S x y = S (x + 1) (y + 1)
  pd : ∀ x y, x < n → y ≤ m → P (x + 1) y ≤ P x y + 1
  pi : ∀ x y, x ≤ n → y < m → P x (y + 1) ≤ P x y + 1
  sd : ∀ x y, x < n → y ≤ m → S x y ≤ S (x + 1) y + 1
  si : ∀ x y, x ≤ n → y < m → S x y ≤ S x (y + 1) + 1
  pdiag : ∀ x y, x < n → y < m → P x y ≤ P (x + 1) (y + 1)
  sdiag : ∀ x y, x < n → y < m → S (x + 1) (y + 1) ≤ S x y
  ppred : ∀ x y, x ≤ n → y ≤ m → (x = 0 ∧ y = 0) ∨ (∃ x' y', x = x' + 1 ∧ y = y' + 1 ∧ M x' y' ∧ P x' y' = P x y) ∨ (∃ x', x = x' + 1 ∧ P x' y = P x y - 1) ∨ (∃ y', y = y' + 1 ∧ P x y' = P x y - 1)
  spred : ∀ x y, x ≤ n → y ≤ m → (x = n ∧ y = m) ∨ (x < n ∧ y < m ∧ M x y ∧ S (x + 1) (y + 1) = S x y) ∨ (x < n ∧ S (x + 1) y = S x y - 1) ∨ (y < m ∧ S x (y + 1) = S x y - 1)
  plo : ∀ x y, x ≤ n → y ≤ m → (x : Int) - y ≤ P x y ∧ (y : Int) - x ≤ P x y
  slo : ∀ x y, x ≤ n → y ≤ m → ((n : Int) - x) - (m - y) ≤ S x y ∧ ((m : Int) - y) - (n - x) ≤ S x y
  pleft : ∀ y, y ≤ m → P 0 y ≤ y
  pup : ∀ x, x ≤ n → P x 0 ≤ x
  sright : ∀ y, y ≤ m → S n y ≤ (m : Int) - y
  sdown : ∀ x, x ≤ n → S x m ≤ (n : Int) - x
  ppar : ∀ x y, x ≤ n → y ≤ m → (P x y + x + y) % 2 = 0
  dle : D ≤ (n : Int) + m
  spar : ∀ x y, x ≤ n → y ≤ m → (S x y + ((n : Int) - x) + ((m : Int) - y)) % 2 = 0

theorem grid_of (f g : Nat → Int) (x0 y0 n m : Nat) :
    Grid n m (fun x y => f (x0 + x) = g (y0 + y)) (fun x y => (x : Int) + y - 2 * lc f g x0 y0 x y) (fun x y => ((n - x : Nat) : Int) + (m - y : Nat) - 2 * lc f g (x0 + x) (y0 + y) (n - x) (m - y)) ((n : Int) + m - 2 * lc f g x0 y0 n m) where
  p00 := by simp [lc_zero_left]
  snm := by simp [lc_zero_left]
  pnm := rfl
  s00 := by simp
  sum := fun x y hx hy => by
    have h := lc_cat f g x0 y0 x y (n - x) (m - y)
    rw [show x + (n - x) = n by omega, show y + (m - y) = m by omega] at h
    omega
  pm := fun x y hx hy h => by
    have := lc_match f g x0 y0 x y h
    simp only [this]; omega
  sm := fun x y hx hy h => by
    have := lc_front_match f g (x0 + x) (y0 + y) (n - (x + 1)) (m - (y + 1)) h
    rw [show n - (x + 1) + 1 = n - x by omega, show m - (y + 1) + 1 = m - y by omega] at this
    simp only [this, Nat.add_assoc]
    omega
  pd := fun x y hx hy => by have := lc_mono_left f g x0 y0 x y; omega
  pi := fun x y hx hy => by have := lc_mono_right f g x0 y0 x y; omega
  sd := fun x y hx hy => by
    have := lc_front_mono_left f g (x0 + x) (y0 + y) (n - (x + 1)) (m - y)
    rw [show n - (x + 1) + 1 = n - x by omega, Nat.add_assoc] at this
    omega
  si := fun x y hx hy => by
    have := lc_front_mono_right f g (x0 + x) (y0 + y) (n - x) (m - (y + 1))
    rw [show m - (y + 1) + 1 = m - y by omega, Nat.add_assoc] at this
    omega
  pdiag := fun x y hx hy => by have := lc_diag f g x0 y0 x y; omega
  sdiag := fun x y hx hy => by
    have := lc_front_diag f g (x0 + x) (y0 + y) (n - (x + 1)) (m - (y + 1))
    rw [show n - (x + 1) + 1 = n - x by omega, show m - (y + 1) + 1 = m - y by omega, Nat.add_assoc, Nat.add_assoc] at this
    omega
  ppred := fun x y hx hy => by
    cases x with
    | zero =>
      cases y with
      | zero => exact .inl ⟨rfl, rfl⟩
      | succ y => exact .inr (.inr (.inr ⟨y, rfl, by simp only [lc_zero_left]; omega⟩))
    | succ x =>
      cases y with
      | zero => exact .inr (.inr (.inl ⟨x, rfl, by simp only [lc_zero_right]; omega⟩))
      | succ y =>
        by_cases h : f (x0 + x) = g (y0 + y)
        · exact .inr (.inl ⟨x, y, rfl, rfl, h, by rw [lc_match f g x0 y0 x y h]; omega⟩)
        · have e := lc_miss f g x0 y0 x y h
          by_cases hl : lc f g x0 y0 (x + 1) y ≤ lc f g x0 y0 x (y + 1)
          · exact .inr (.inr (.inl ⟨x, rfl, by rw [e, Nat.max_eq_left hl]; omega⟩))
          · exact .inr (.inr (.inr ⟨y, rfl, by rw [e, Nat.max_eq_right (by omega)]; omega⟩))
  spred := fun x y hx hy => by
    by_cases hxn : x = n
    · subst hxn
      by_cases hym : y = m
      · exact .inl ⟨rfl, hym⟩
      · refine .inr (.inr (.inr ⟨by omega, ?_⟩))
        rw [Nat.sub_self]; simp only [lc_zero_left]; omega
    · by_cases hym : y = m
      · subst hym
        refine .inr (.inr (.inl ⟨by omega, ?_⟩))
        rw [Nat.sub_self]; simp only [lc_zero_right]; omega
      · by_cases h : f (x0 + x) = g (y0 + y)
        · refine .inr (.inl ⟨by omega, by omega, h, ?_⟩)
          have := lc_front_match f g (x0 + x) (y0 + y) (n - (x + 1)) (m - (y + 1)) h
          rw [show n - (x + 1) + 1 = n - x by omega, show m - (y + 1) + 1 = m - y by omega] at this
          rw [this, ← Nat.add_assoc, ← Nat.add_assoc]
          omega
        · have e := lc_front_miss f g (x0 + x) (y0 + y) (n - (x + 1)) (m - (y + 1)) h
          rw [show n - (x + 1) + 1 = n - x by omega, show m - (y + 1) + 1 = m - y by omega] at e
          by_cases hl : lc f g (x0 + x) (y0 + y + 1) (n - x) (m - (y + 1)) ≤ lc f g (x0 + x + 1) (y0 + y) (n - (x + 1)) (m - y)
          · refine .inr (.inr (.inl ⟨by omega, ?_⟩))
            rw [e, Nat.max_eq_left hl, ← Nat.add_assoc]; omega
          · refine .inr (.inr (.inr ⟨by omega, ?_⟩))
            rw [e, Nat.max_eq_right (by omega), ← Nat.add_assoc]; omega
  plo := fun x y hx hy => by
    have := lc_le_left f g x0 y0 x y
    have := lc_le_right f g x0 y0 x y
    omega
  slo := fun x y hx hy => by
    have := lc_le_left f g (x0 + x) (y0 + y) (n - x) (m - y)
    have := lc_le_right f g (x0 + x) (y0 + y) (n - x) (m - y)
    omega
  pleft := fun y hy => by simp [lc_zero_left]
  pup := fun x hx => by simp [lc_zero_right]
  sright := fun y hy => by rw [Nat.sub_self]; simp only [lc_zero_left]; omega
  sdown := fun x hx => by rw [Nat.sub_self]; simp only [lc_zero_right]; omega
  ppar := fun x y hx hy => by omega
  dle := by omega
  spar := fun x y hx hy => by omega

/-- the grid turned round -/
theorem Grid.turn {n m : Nat} {M : Nat → Nat → Prop} {P S : Nat → Nat → Int} {D : Int} (G : Grid n m M P S D) :
    Grid n m (fun x y => M (n - 1 - x) (m - 1 - y)) (fun x y => S (n - x) (m - y)) (fun x y => P (n - x) (m - y)) D where
  p00 := G.snm
  snm := by simp [G.p00]
  pnm := by simp [G.s00]
  s00 := G.pnm
  sum := fun x y hx hy => by have := G.sum (n - x) (m - y) (by omega) (by omega); omega
  pm := fun x y hx hy h => by
    have := G.sm (n - 1 - x) (m - 1 - y) (by omega) (by omega) h
    rw [show n - 1 - x + 1 = n - x by omega, show m - 1 - y + 1 = m - y by omega, show n - 1 - x = n - (x + 1) by omega, show m - 1 - y = m - (y + 1) by omega] at this
    exact this
  sm := fun x y hx hy h => by
    have := G.pm (n - 1 - x) (m - 1 - y) (by omega) (by omega) h
    rw [show n - 1 - x + 1 = n - x by omega, show m - 1 - y + 1 = m - y by omega, show n - 1 - x = n - (x + 1) by omega, show m - 1 - y = m - (y + 1) by omega] at this
    exact this
  pd := fun x y hx hy => by
    have := G.sd (n - (x + 1)) (m - y) (by omega) (by omega)
    rw [show n - (x + 1) + 1 = n - x by omega] at this
    exact this
  pi := fun x y hx hy => by
    have := G.si (n - x) (m - (y + 1)) (by omega) (by omega)
    rw [show m - (y + 1) + 1 = m - y by omega] at this
    exact this
  sd := fun x y hx hy => by
    have := G.pd (n - (x + 1)) (m - y) (by omega) (by omega)
    rw [show n - (x + 1) + 1 = n - x by omega] at this
    exact this
  si := fun x y hx hy => by
    have := G.pi (n - x) (m - (y + 1)) (by omega) (by omega)
    rw [show m - (y + 1) + 1 = m - y by omega] at this
    exact this
  pdiag := fun x y hx hy => by
    have := G.sdiag (n - (x + 1)) (m - (y + 1)) (by omega) (by omega)
    rw [show n - (x + 1) + 1 = n - x by omega, show m - (y + 1) + 1 = m - y by omega] at this
    exact this
  sdiag := fun x y hx hy => by
    have := G.pdiag (n - (x + 1)) (m - (y + 1)) (by omega) (by omega)
    rw [show n - (x + 1) + 1 = n - x by omega, show m - (y + 1) + 1 = m - y by omega] at this
    exact this
  ppred := fun x y hx hy => by
    rcases G.spred (n - x) (m - y) (by omega) (by omega) with h | ⟨h1, h2, h3, h4⟩ | ⟨h1, h2⟩ | ⟨h1, h2⟩
    · exact .inl (by omega)
    · refine .inr (.inl ⟨x - 1, y - 1, by omega, by omega, ?_, ?_⟩)
      · rw [show n - 1 - (x - 1) = n - x by omega, show m - 1 - (y - 1) = m - y by omega]; exact h3
      · rw [show n - (x - 1) = n - x + 1 by omega, show m - (y - 1) = m - y + 1 by omega]; exact h4
    · exact .inr (.inr (.inl ⟨x - 1, by omega, by rw [show n - (x - 1) = n - x + 1 by omega]; exact h2⟩))
    · exact .inr (.inr (.inr ⟨y - 1, by omega, by rw [show m - (y - 1) = m - y + 1 by omega]; exact h2⟩))
  spred := fun x y hx hy => by
    rcases G.ppred (n - x) (m - y) (by omega) (by omega) with h | ⟨x', y', h1, h2, h3, h4⟩ | ⟨x', h1, h2⟩ | ⟨y', h1, h2⟩
    · exact .inl (by omega)
    · refine .inr (.inl ⟨by omega, by omega, ?_, ?_⟩)
      · rw [show n - 1 - x = x' by omega, show m - 1 - y = y' by omega]; exact h3
      · rw [show n - (x + 1) = x' by omega, show m - (y + 1) = y' by omega]; exact h4
    · exact .inr (.inr (.inl ⟨by omega, by rw [show n - (x + 1) = x' by omega]; exact h2⟩))
    · exact .inr (.inr (.inr ⟨by omega, by rw [show m - (y + 1) = y' by omega]; exact h2⟩))
  plo := fun x y hx hy => by have := G.slo (n - x) (m - y) (by omega) (by omega); omega
  slo := fun x y hx hy => by have := G.plo (n - x) (m - y) (by omega) (by omega); omega
  pleft := fun y hy => by have := G.sright (m - y) (by omega); simp only [Nat.sub_zero]; omega
  pup := fun x hx => by have := G.sdown (n - x) (by omega); simp only [Nat.sub_zero]; omega
  sright := fun y hy => by have := G.pleft (m - y) (by omega); rw [Nat.sub_self]; omega
  sdown := fun x hx => by have := G.pup (n - x) (by omega); rw [Nat.sub_self]; omega
  ppar := fun x y hx hy => by have := G.spar (n - x) (m - y) (by omega) (by omega); omega
  dle := G.dle
  spar := fun x y hx hy => by have := G.ppar (n - x) (m - y) (by omega) (by omega); omega
end Go.Proofs.Qxb6602961a.Myers
