/- THE PLAIN MATHEMATICS, FOURTH PART: the search from the end; the invariants of both searches; their meeting. No Go in sight. -/
import Derived.Test.Qxb6602961aStep
namespace Go.Proofs.Qxb6602961a.Myers
set_option linter.unusedVariables false

/-- u is what the search from the end knows of diagonal k behind e edits -/
def BOK (n m : Nat) (P S : Nat → Nat → Int) (D e k u : Int) : Prop :=
  (u = -1 ∨ ∃ x y : Nat, u = x ∧ (x : Int) - y = k ∧ x ≤ n ∧ y ≤ m ∧ S x y ≤ e) ∧
  ∀ x y : Nat, x ≤ n → y ≤ m → (x : Int) - y = k → P x y + S x y = D → S x y = e → 0 ≤ u ∧ u ≤ (x : Int)

/-- a value of the search from the end, as one of the search from the start on the grid turned round -/
def tr (n u : Int) : Int := if u < 0 then -1 else n - u

def x0B (e k bLo bHi n v1 v2 : Int) : Int :=
  if k + 1 ≤ bHi ∧ 0 < v2 ∧ v2 - 1 < (if bLo ≤ k - 1 ∧ 0 ≤ v1 ∧ 0 ≤ v1 - k then v1 else if e = 0 then n else n + 1) then v2 - 1
  else if bLo ≤ k - 1 ∧ 0 ≤ v1 ∧ 0 ≤ v1 - k then v1 else if e = 0 then n else n + 1

def SnakeB (n m : Nat) (M : Nat → Nat → Prop) (k x X : Int) : Prop :=
  X ≤ x ∧ 0 ≤ X ∧ 0 ≤ X - k ∧ (∀ a b : Nat, X ≤ a → (a : Int) < x → (a : Int) - b = k → a < n ∧ b < m ∧ M a b) ∧
  ∀ a b : Nat, (a : Int) + 1 = X → (a : Int) - b = k → a < n → b < m → ¬ M a b

section
variable {n m : Nat} {M : Nat → Nat → Prop} {P S : Nat → Nat → Int} {D : Int}

theorem BOK_turn {e k u : Int} (hu : u = -1 ∨ (0 ≤ u ∧ u ≤ n)) :
    BOK n m P S D e k u ↔ FOK n m (fun x y => S (n - x) (m - y)) (fun x y => P (n - x) (m - y)) D e ((n : Int) - m - k) (tr n u) := by
  unfold BOK FOK tr
  dsimp only
  constructor
  · rintro ⟨h1, h2⟩
    constructor
    · rcases h1 with rfl | ⟨x, y, r1, r2, r3, r4, r5⟩
      · left; simp
      · right
        refine ⟨n - x, m - y, by rw [if_neg (by omega)]; omega, by omega, by omega, by omega, ?_⟩
        rw [show n - (n - x) = x by omega, show m - (m - y) = y by omega]
        exact r5
    · intro x y hx hy hk hon hs
      have := h2 (n - x) (m - y) (by omega) (by omega) (by omega) (by omega) hs
      rw [if_neg (by omega)]
      omega
  · rintro ⟨h1, h2⟩
    constructor
    · rcases h1 with h | ⟨x, y, r1, r2, r3, r4, r5⟩
      · left
        by_cases hu0 : u < 0
        · omega
        · rw [if_neg hu0] at h; omega
      · right
        by_cases hu0 : u < 0
        · rw [if_pos hu0] at r1; omega
        · rw [if_neg hu0] at r1
          exact ⟨n - x, m - y, by omega, by omega, by omega, by omega, r5⟩
    · intro x y hx hy hk hon hs
      have := h2 (n - x) (m - y) (by omega) (by omega) (by omega)
        (by rw [show n - (n - x) = x by omega, show m - (m - y) = y by omega]; omega) (by rw [show n - (n - x) = x by omega, show m - (m - y) = y by omega]; exact hs)
      by_cases hu0 : u < 0
      · rw [if_pos hu0] at this; omega
      · rw [if_neg hu0] at this; omega

theorem BOK.rng {e k u : Int} (h : BOK n m P S D e k u) : u = -1 ∨ (0 ≤ u ∧ u ≤ n) := by
  rcases h.1 with h | ⟨x, y, r1, r2, r3, r4, r5⟩
  · exact .inl h
  · exact .inr (by omega)
theorem FOK.rng {e k u : Int} (h : FOK n m P S D e k u) : u = -1 ∨ (0 ≤ u ∧ u ≤ n) := by
  rcases h.1 with h | ⟨x, y, r1, r2, r3, r4, r5⟩
  · exact .inl h
  · exact .inr (by omega)

theorem x0_turn {e k bLo bHi v1 v2 : Int} (h1 : bLo ≤ k - 1 → v1 = -1 ∨ (0 ≤ v1 ∧ v1 ≤ n)) (h2 : k + 1 ≤ bHi → v2 = -1 ∨ (0 ≤ v2 ∧ v2 ≤ n)) :
    x0F e ((n : Int) - m - k) ((n : Int) - m - bHi) ((n : Int) - m - bLo) n m (tr n v1) (tr n v2) = n - x0B e k bLo bHi n v1 v2 := by
  have q1 : bLo ≤ k - 1 → (v1 = -1 ∧ tr n v1 = -1) ∨ (0 ≤ v1 ∧ v1 ≤ n ∧ tr n v1 = n - v1) := fun h => by
    rcases h1 h with r | r
    · subst r; exact .inl ⟨rfl, rfl⟩
    · exact .inr ⟨r.1, r.2, if_neg (by omega)⟩
  have q2 : k + 1 ≤ bHi → (v2 = -1 ∧ tr n v2 = -1) ∨ (0 ≤ v2 ∧ v2 ≤ n ∧ tr n v2 = n - v2) := fun h => by
    rcases h2 h with r | r
    · subst r; exact .inl ⟨rfl, rfl⟩
    · exact .inr ⟨r.1, r.2, if_neg (by omega)⟩
  generalize tr n v1 = t1 at q1
  generalize tr n v2 = t2 at q2
  clear h1 h2
  unfold x0F x0B
  by_cases c1 : bLo ≤ k - 1
  · have := q1 c1
    by_cases c2 : k + 1 ≤ bHi
    · have := q2 c2
      clear q1 q2
      repeat' split
      all_goals omega
    · clear q1 q2
      repeat' split
      all_goals omega
  · by_cases c2 : k + 1 ≤ bHi
    · have := q2 c2
      clear q1 q2
      repeat' split
      all_goals omega
    · clear q1 q2
      repeat' split
      all_goals omega

theorem snake_turn {k x X : Int} (hx : x ≤ n) (h : SnakeB n m M k x X) : Snake n m (fun x y => M (n - 1 - x) (m - 1 - y)) ((n : Int) - m - k) (n - x) (n - X) := by
  obtain ⟨h1, h2, h3, h4, h5⟩ := h
  refine ⟨by omega, by omega, by omega, ?_, ?_⟩
  · intro a b ha hb hab
    have := h4 (n - 1 - a) (m - 1 - b)
    have hbm : b < m := by omega
    obtain ⟨q1, q2, q3⟩ := h4 (n - 1 - a) (m - 1 - b) (by omega) (by omega) (by omega)
    exact ⟨by omega, hbm, q3⟩
  · intro a b ha hab han hbm
    exact h5 (n - 1 - a) (m - 1 - b) (by omega) (by omega) (by omega) (by omega)

/-- one diagonal of the search from the end -/
theorem stepB (G : Grid n m M P S D) (e k bLo bHi v1 v2 X : Int) (he : 0 ≤ e) (hk1 : -(m : Int) ≤ k) (hk2 : k ≤ n)
    (h1 : bLo ≤ k - 1 → BOK n m P S D (e - 1) (k - 1) v1) (h2 : k + 1 ≤ bHi → BOK n m P S D (e - 1) (k + 1) v2)
    (i1 : (n : Int) - m - (e - 1) ≤ k - 1 → -(m : Int) ≤ k - 1 → bLo ≤ k - 1) (i2 : k + 1 ≤ (n : Int) - m + (e - 1) → k + 1 ≤ n → k + 1 ≤ bHi) (hk0 : e = 0 → k = (n : Int) - m)
    (hX1 : (n : Int) < x0B e k bLo bHi n v1 v2 → X = -1) (hX2 : x0B e k bLo bHi n v1 v2 ≤ n → SnakeB n m M k (x0B e k bLo bHi n v1 v2) X) :
    BOK n m P S D e k X := by
  have ht := x0_turn (m := m) (e := e) (fun h => (h1 h).rng) (fun h => (h2 h).rng)
  have hXr : X = -1 ∨ (0 ≤ X ∧ X ≤ n) := by
    by_cases h : (n : Int) < x0B e k bLo bHi n v1 v2
    · exact .inl (hX1 h)
    · have := hX2 (by omega)
      exact .inr ⟨this.2.1, by have := this.1; omega⟩
  rw [BOK_turn hXr]
  refine step G.turn e ((n : Int) - m - k) ((n : Int) - m - bHi) ((n : Int) - m - bLo) (tr n v1) (tr n v2) (tr n X) he (by omega) (by omega) ?_ ?_ (fun a b => by have := i1 (by omega) (by omega); omega) (fun a b => by have := i2 (by omega) (by omega); omega) (fun h => by have := hk0 h; omega) ?_ ?_
  · intro h
    have hb := h1 (by omega)
    have := (BOK_turn hb.rng).1 hb
    rwa [show (n : Int) - m - (k - 1) = (n : Int) - m - k + 1 by omega] at this
  · intro h
    have hb := h2 (by omega)
    have := (BOK_turn hb.rng).1 hb
    rwa [show (n : Int) - m - (k + 1) = (n : Int) - m - k - 1 by omega] at this
  · intro h
    rw [ht] at h
    rw [hX1 (by omega)]
    rfl
  · intro h
    rw [ht] at h ⊢
    have hs := hX2 (by omega)
    have : tr n X = n - X := by
      unfold tr
      have := hs.2.1
      rw [if_neg (by omega)]
    rw [this]
    exact snake_turn (by omega) hs

/-- a point of a shortest edit at every distance from the start -/
theorem Grid.mid (G : Grid n m M P S D) (e : Int) (h0 : 0 ≤ e) : ∀ s x y : Nat, x + y = s → x ≤ n → y ≤ m → P x y + S x y = D → e ≤ P x y →
    ∃ x' y' : Nat, x' ≤ n ∧ y' ≤ m ∧ P x' y' = e ∧ P x' y' + S x' y' = D := by
  intro s
  induction s using Nat.strongRecOn with
  | ind s ih =>
    intro x y hs hx hy hon he
    by_cases heq : P x y = e
    · exact ⟨x, y, hx, hy, heq, hon⟩
    · rcases G.ppred x y hx hy with ⟨rfl, rfl⟩ | ⟨x', y', rfl, rfl, hM, q⟩ | ⟨x', rfl, q⟩ | ⟨y', rfl, q⟩
      · have := G.p00; omega
      · have := G.sm x' y' (by omega) (by omega) hM
        have := G.sum x' y' (by omega) (by omega)
        exact ih (x' + y') (by omega) x' y' rfl (by omega) (by omega) (by omega) (by omega)
      · have := G.sd x' y (by omega) (by omega)
        have := G.sum x' y (by omega) (by omega)
        exact ih (x' + y) (by omega) x' y rfl (by omega) (by omega) (by omega) (by omega)
      · have := G.si x y' (by omega) (by omega)
        have := G.sum x y' (by omega) (by omega)
        exact ih (x + y') (by omega) x y' rfl (by omega) (by omega) (by omega) (by omega)
end
end Go.Proofs.Qxb6602961a.Myers
