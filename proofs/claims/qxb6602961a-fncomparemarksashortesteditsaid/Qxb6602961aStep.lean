/- THE PLAIN MATHEMATICS, THIRD PART: one diagonal of one step of either search; the searches meet at a point of a shortest edit, and not before. No Go in sight. -/
import Derived.Test.Qxb6602961aGrid
namespace Go.Proofs.Qxb6602961a.Myers
set_option linter.unusedVariables false

/-- v is what the search from the start knows of diagonal k behind e edits: -1, or an x that e edits reach; and no point of a shortest edit that lies e edits from the start is further. -/
def FOK (n m : Nat) (P S : Nat → Nat → Int) (D e k v : Int) : Prop :=
  (v = -1 ∨ ∃ x y : Nat, v = x ∧ (x : Int) - y = k ∧ x ≤ n ∧ y ≤ m ∧ P x y ≤ e) ∧
  ∀ x y : Nat, x ≤ n → y ≤ m → (x : Int) - y = k → P x y + S x y = D → P x y = e → (x : Int) ≤ v

/-- where diagonal k is begun: the values v1 and v2 of the diagonals k+1 and k-1 -/
def x0F (e k fLo fHi n m v1 v2 : Int) : Int :=
  if fLo ≤ k - 1 ∧ 0 ≤ v2 ∧ v2 < n ∧ (if k + 1 ≤ fHi ∧ 0 ≤ v1 ∧ v1 - k ≤ m then v1 else if e = 0 then 0 else -1) < v2 + 1 then v2 + 1
  else if k + 1 ≤ fHi ∧ 0 ≤ v1 ∧ v1 - k ≤ m then v1 else if e = 0 then 0 else -1

/-- X is where the matches from x on end -/
def Snake (n m : Nat) (M : Nat → Nat → Prop) (k x X : Int) : Prop :=
  x ≤ X ∧ X ≤ n ∧ X - k ≤ m ∧ (∀ a b : Nat, x ≤ a → (a : Int) < X → (a : Int) - b = k → a < n ∧ b < m ∧ M a b) ∧
  ∀ a b : Nat, (a : Int) = X → (a : Int) - b = k → a < n → b < m → ¬ M a b

section
variable {n m : Nat} {M : Nat → Nat → Prop} {P S : Nat → Nat → Int} {D : Int}

theorem x0F_ge1 {e k fLo fHi n m v1 v2 : Int} (h : k + 1 ≤ fHi ∧ 0 ≤ v1 ∧ v1 - k ≤ m) : v1 ≤ x0F e k fLo fHi n m v1 v2 := by
  unfold x0F
  simp only [if_pos h]
  split <;> omega
theorem x0F_ge2 {e k fLo fHi n m v1 v2 : Int} (h : fLo ≤ k - 1 ∧ 0 ≤ v2 ∧ v2 < n) : v2 + 1 ≤ x0F e k fLo fHi n m v1 v2 := by
  unfold x0F
  split
  · omega
  · omega
theorem x0F_ge0 {k fLo fHi n m v1 v2 : Int} : 0 ≤ x0F 0 k fLo fHi n m v1 v2 := by
  unfold x0F
  repeat' split
  all_goals omega
theorem x0F_cases {e k fLo fHi n m v1 v2 : Int} (h : 0 ≤ x0F e k fLo fHi n m v1 v2) :
    (e = 0 ∧ x0F e k fLo fHi n m v1 v2 = 0) ∨ (x0F e k fLo fHi n m v1 v2 = v1 ∧ k + 1 ≤ fHi ∧ 0 ≤ v1 ∧ v1 - k ≤ m) ∨ (x0F e k fLo fHi n m v1 v2 = v2 + 1 ∧ fLo ≤ k - 1 ∧ 0 ≤ v2 ∧ v2 < n) := by
  unfold x0F at *
  repeat' split at h
  all_goals (repeat' split) <;> omega

theorem Grid.pdiags (G : Grid n m M P S D) (x y : Nat) : ∀ t, x + t ≤ n → y + t ≤ m → P x y ≤ P (x + t) (y + t)
  | 0, _, _ => Int.le_refl _
  | t + 1, h1, h2 => by
    have := G.pdiags x y t (by omega) (by omega)
    have := G.pdiag (x + t) (y + t) (by omega) (by omega)
    rw [← Nat.add_assoc, ← Nat.add_assoc]
    omega
theorem Grid.sdiags (G : Grid n m M P S D) (x y : Nat) : ∀ t, x + t ≤ n → y + t ≤ m → S (x + t) (y + t) ≤ S x y
  | 0, _, _ => Int.le_refl _
  | t + 1, h1, h2 => by
    have := G.sdiags x y t (by omega) (by omega)
    have := G.sdiag (x + t) (y + t) (by omega) (by omega)
    rw [← Nat.add_assoc, ← Nat.add_assoc]
    omega
theorem Grid.psnake (G : Grid n m M P S D) (x y : Nat) : ∀ t, x + t ≤ n → y + t ≤ m → (∀ s, s < t → M (x + s) (y + s)) → P (x + t) (y + t) = P x y
  | 0, _, _, _ => rfl
  | t + 1, h1, h2, h => by
    have e1 := G.psnake x y t (by omega) (by omega) (fun s hs => h s (by omega))
    have e2 := G.pm (x + t) (y + t) (by omega) (by omega) (h t (by omega))
    rw [← Nat.add_assoc, ← Nat.add_assoc, e2, e1]

/-- one diagonal of the search from the start -/
theorem step (G : Grid n m M P S D) (e k fLo fHi v1 v2 X : Int) (he : 0 ≤ e) (hk1 : -(m : Int) ≤ k) (hk2 : k ≤ n)
    (h1 : k + 1 ≤ fHi → FOK n m P S D (e - 1) (k + 1) v1) (h2 : fLo ≤ k - 1 → FOK n m P S D (e - 1) (k - 1) v2)
    (i1 : k + 1 ≤ e - 1 → k + 1 ≤ n → k + 1 ≤ fHi) (i2 : -(e - 1) ≤ k - 1 → -(m : Int) ≤ k - 1 → fLo ≤ k - 1) (hk0 : e = 0 → k = 0)
    (hX1 : x0F e k fLo fHi n m v1 v2 < 0 → X = -1) (hX2 : 0 ≤ x0F e k fLo fHi n m v1 v2 → Snake n m M k (x0F e k fLo fHi n m v1 v2) X) :
    FOK n m P S D e k X := by
  constructor
  · by_cases hx : x0F e k fLo fHi n m v1 v2 < 0
    · exact .inl (hX1 hx)
    · right
      obtain ⟨s1, s2, s3, s4, s5⟩ := hX2 (by omega)
      -- the point at which the diagonal is begun
      have hst : ∃ x y : Nat, x0F e k fLo fHi n m v1 v2 = x ∧ (x : Int) - y = k ∧ x ≤ n ∧ y ≤ m ∧ P x y ≤ e := by
        rcases x0F_cases (by omega : 0 ≤ x0F e k fLo fHi n m v1 v2) with ⟨q1, q2⟩ | ⟨q1, q2, q3, q4⟩ | ⟨q1, q2, q3, q4⟩
        · refine ⟨0, 0, by omega, by have := hk0 q1; omega, by omega, by omega, by have := G.p00; omega⟩
        · rcases (h1 q2).1 with r | ⟨x, y, r1, r2, r3, r4, r5⟩
          · omega
          · refine ⟨x, y + 1, by omega, by omega, r3, by omega, ?_⟩
            have := G.pi x y r3 (by omega)
            omega
        · rcases (h2 q2).1 with r | ⟨x, y, r1, r2, r3, r4, r5⟩
          · omega
          · refine ⟨x + 1, y, by omega, by omega, by omega, r4, ?_⟩
            have := G.pd x y (by omega) r4
            omega
      obtain ⟨x, y, t1, t2, t3, t4, t5⟩ := hst
      obtain ⟨t, ht⟩ : ∃ t : Nat, X = (x : Int) + t := ⟨(X - x).toNat, by omega⟩
      refine ⟨x + t, y + t, by omega, by omega, by omega, by omega, ?_⟩
      rw [G.psnake x y t (by omega) (by omega) (fun s hs => (s4 (x + s) (y + s) (by omega) (by omega) (by omega)).2.2)]
      exact t5
  · -- no point of a shortest edit is further
    intro x
    induction x with
    | zero =>
      intro y hx hy hd hon hp
      rcases G.ppred 0 y hx hy with ⟨_, rfl⟩ | ⟨x', y', q, _⟩ | ⟨x', q, _⟩ | ⟨y', rfl, q⟩
      · have h0 := G.p00
        have he0 : e = 0 := by omega
        subst he0
        have := x0F_ge0 (k := k) (fLo := fLo) (fHi := fHi) (n := n) (m := m) (v1 := v1) (v2 := v2)
        have := (hX2 this).1
        omega
      · omega
      · omega
      · have hlo := G.plo 0 y' (by omega) (by omega)
        have hq := h1 (i1 (by omega) (by omega))
        have hs := G.si 0 y' (by omega) (by omega)
        have hsum := G.sum 0 y' (by omega) (by omega)
        have hv := hq.2 0 y' (by omega) (by omega) (by omega) (by omega) (by omega)
        have hv1 : v1 - k ≤ m := by
          rcases hq.1 with r | ⟨a, b, r1, r2, r3, r4, r5⟩
          · omega
          · by_cases hb : b < m
            · omega
            · obtain rfl : b = m := by omega
              have := G.sum a b r3 r4
              have := G.sdown a r3
              have := G.slo 0 (y' + 1) (by omega) (by omega)
              omega
        have hge := x0F_ge1 (e := e) (fLo := fLo) (n := n) (v2 := v2) ⟨i1 (by omega) (by omega), (by omega : 0 ≤ v1), hv1⟩
        have := (hX2 (by omega)).1
        omega
    | succ x ih =>
      intro y hx hy hd hon hp
      rcases G.ppred (x + 1) y hx hy with ⟨q, _⟩ | ⟨x', y', q, rfl, hM, q3⟩ | ⟨x', q, q2⟩ | ⟨y', rfl, q⟩
      · omega
      · obtain rfl : x = x' := by omega
        have hs := G.sm x y' (by omega) (by omega) hM
        have hle := ih y' (by omega) (by omega) (by omega) (by omega) (by omega)
        by_cases hlt : (x : Int) < X
        · omega
        · exfalso
          have hXx : (x : Int) = X := by omega
          have hx0 : 0 ≤ x0F e k fLo fHi n m v1 v2 := by
            by_cases hneg : x0F e k fLo fHi n m v1 v2 < 0
            · have := hX1 hneg; omega
            · omega
          exact (hX2 hx0).2.2.2.2 x y' hXx (by omega) (by omega) (by omega) hM
      · obtain rfl : x = x' := by omega
        have hlo := G.plo x y (by omega) (by omega)
        have hr := i2 (by omega) (by omega)
        have hq := h2 hr
        have hs := G.sd x y (by omega) (by omega)
        have hsum := G.sum x y (by omega) (by omega)
        have hv := hq.2 x y (by omega) (by omega) (by omega) (by omega) (by omega)
        have hv2 : v2 < n := by
          rcases hq.1 with r | ⟨a, b, r1, r2, r3, r4, r5⟩
          · omega
          · by_cases hb : a < n
            · omega
            · obtain rfl : a = n := by omega
              have := G.sum a b r3 r4
              have := G.sright b r4
              have := G.slo (x + 1) y (by omega) (by omega)
              omega
        have hge := x0F_ge2 (e := e) (k := k) (fHi := fHi) (m := m) (v1 := v1) ⟨hr, (by omega : 0 ≤ v2), hv2⟩
        have := (hX2 (by omega)).1
        omega
      · have hlo := G.plo (x + 1) y' (by omega) (by omega)
        have hr := i1 (by omega) (by omega)
        have hq := h1 hr
        have hs := G.si (x + 1) y' (by omega) (by omega)
        have hsum := G.sum (x + 1) y' (by omega) (by omega)
        have hv := hq.2 (x + 1) y' (by omega) (by omega) (by omega) (by omega) (by omega)
        have hv1 : v1 - k ≤ m := by
          rcases hq.1 with r | ⟨a, b, r1, r2, r3, r4, r5⟩
          · omega
          · by_cases hb : b < m
            · omega
            · obtain rfl : b = m := by omega
              have := G.sum a b r3 r4
              have := G.sdown a r3
              have := G.slo (x + 1) (y' + 1) (by omega) (by omega)
              omega
        have hge := x0F_ge1 (e := e) (fLo := fLo) (n := n) (v2 := v2) ⟨hr, (by omega : 0 ≤ v1), hv1⟩
        have := (hX2 (by omega)).1
        omega
end
end Go.Proofs.Qxb6602961a.Myers
