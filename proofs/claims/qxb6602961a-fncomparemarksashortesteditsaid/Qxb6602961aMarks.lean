/- THE PLAIN MATHEMATICS OF compare: marks that leave equal lines and are as many as the least number of edits. No Go in sight. -/
import Derived.Test.Qxb6602961aLcs
namespace Go.Proofs.Qxb6602961a.Myers
set_option linter.unusedVariables false

/-- the i lines of h from x on that p does not mark -/
def un (h : Nat → Int) (p : Nat → Bool) : Nat → Nat → List Int
  | 0, _ => []
  | i + 1, x => if p x then un h p i (x + 1) else h x :: un h p i (x + 1)
/-- how many of the i lines from x on p marks -/
def cnt (p : Nat → Bool) : Nat → Nat → Nat
  | 0, _ => 0
  | i + 1, x => (if p x then 1 else 0) + cnt p i (x + 1)

section
variable (h : Nat → Int) (p q : Nat → Bool)
theorem un_add (j : Nat) : ∀ i x, un h p (i + j) x = un h p i x ++ un h p j (x + i)
  | 0, x => by simp [un]
  | i + 1, x => by
    rw [show i + 1 + j = (i + j) + 1 by omega]
    show (if p x then un h p (i + j) (x + 1) else h x :: un h p (i + j) (x + 1)) = (if p x then un h p i (x + 1) else h x :: un h p i (x + 1)) ++ _
    rw [un_add j i (x + 1), show x + 1 + i = x + (i + 1) by omega]
    split <;> simp
theorem cnt_add (j : Nat) : ∀ i x, cnt p (i + j) x = cnt p i x + cnt p j (x + i)
  | 0, x => by simp [cnt]
  | i + 1, x => by
    rw [show i + 1 + j = (i + j) + 1 by omega]
    show (if p x then 1 else 0) + cnt p (i + j) (x + 1) = ((if p x then 1 else 0) + cnt p i (x + 1)) + _
    rw [cnt_add j i (x + 1), show x + 1 + i = x + (i + 1) by omega]
    omega
theorem un_congr : ∀ i x, (∀ t, x ≤ t → t < x + i → p t = q t) → un h p i x = un h q i x
  | 0, x, _ => rfl
  | i + 1, x, hh => by
    show (if p x then un h p i (x + 1) else h x :: un h p i (x + 1)) = (if q x then un h q i (x + 1) else h x :: un h q i (x + 1))
    rw [hh x (by omega) (by omega), un_congr i (x + 1) (fun t h1 h2 => hh t (by omega) (by omega))]
theorem cnt_congr : ∀ i x, (∀ t, x ≤ t → t < x + i → p t = q t) → cnt p i x = cnt q i x
  | 0, x, _ => rfl
  | i + 1, x, hh => by
    show (if p x then 1 else 0) + cnt p i (x + 1) = (if q x then 1 else 0) + cnt q i (x + 1)
    rw [hh x (by omega) (by omega), cnt_congr i (x + 1) (fun t h1 h2 => hh t (by omega) (by omega))]
theorem un_all : ∀ i x, (∀ t, x ≤ t → t < x + i → p t = true) → un h p i x = []
  | 0, x, _ => rfl
  | i + 1, x, hh => by
    show (if p x then un h p i (x + 1) else h x :: un h p i (x + 1)) = []
    rw [hh x (by omega) (by omega), if_pos rfl, un_all i (x + 1) (fun t h1 h2 => hh t (by omega) (by omega))]
theorem cnt_all : ∀ i x, (∀ t, x ≤ t → t < x + i → p t = true) → cnt p i x = i
  | 0, x, _ => rfl
  | i + 1, x, hh => by
    show (if p x then 1 else 0) + cnt p i (x + 1) = i + 1
    rw [hh x (by omega) (by omega), if_pos rfl, cnt_all i (x + 1) (fun t h1 h2 => hh t (by omega) (by omega))]
    omega
theorem cnt_le : ∀ i x, cnt p i x ≤ i
  | 0, x => Nat.le_refl _
  | i + 1, x => by
    show (if p x then 1 else 0) + cnt p i (x + 1) ≤ i + 1
    have := cnt_le i (x + 1)
    split <;> omega
theorem un_hit (i x : Nat) (hx : p x = true) : un h p (i + 1) x = un h p i (x + 1) := by
  show (if p x then un h p i (x + 1) else h x :: un h p i (x + 1)) = _
  rw [if_pos hx]
theorem un_miss (i x : Nat) (hx : p x = false) : un h p (i + 1) x = h x :: un h p i (x + 1) := by
  show (if p x then un h p i (x + 1) else h x :: un h p i (x + 1)) = _
  rw [if_neg (by simp [hx])]
theorem cnt_hit (i x : Nat) (hx : p x = true) : cnt p (i + 1) x = cnt p i (x + 1) + 1 := by
  show (if p x then 1 else 0) + cnt p i (x + 1) = _
  rw [if_pos hx]; omega
theorem cnt_miss (i x : Nat) (hx : p x = false) : cnt p (i + 1) x = cnt p i (x + 1) := by
  show (if p x then 1 else 0) + cnt p i (x + 1) = _
  rw [if_neg (by simp [hx])]; omega
end

/-- p and q mark a shortest edit of f's n lines from x on into g's m from y on -/
def Marked (f g : Nat → Int) (p q : Nat → Bool) (x n y m : Nat) : Prop :=
  un f p n x = un g q m y ∧ (cnt p n x : Int) + cnt q m y = (n : Int) + m - 2 * lc f g x y n m

section
variable {f g : Nat → Int} {p q p' q' : Nat → Bool} {x n y m : Nat}
theorem Marked.congr (h : Marked f g p q x n y m) (h1 : ∀ t, x ≤ t → t < x + n → p' t = p t) (h2 : ∀ t, y ≤ t → t < y + m → q' t = q t) : Marked f g p' q' x n y m := by
  unfold Marked
  rw [un_congr f p' p n x h1, un_congr g q' q m y h2, cnt_congr p' p n x h1, cnt_congr q' q m y h2]
  exact h
/-- nothing of a part: all lines of the other are marked -/
theorem Marked.ins (h : ∀ t, y ≤ t → t < y + m → q t = true) : Marked f g p q x 0 y m := by
  unfold Marked
  rw [un_all g q m y h, cnt_all q m y h, lc_zero_left]
  exact ⟨rfl, by simp [cnt]⟩
theorem Marked.del (h : ∀ t, x ≤ t → t < x + n → p t = true) : Marked f g p q x n y 0 := by
  unfold Marked
  rw [un_all f p n x h, cnt_all p n x h, lc_zero_right]
  exact ⟨rfl, by simp [cnt]⟩
/-- a line that both parts begin with -/
theorem Marked.front (h : Marked f g p q (x + 1) n (y + 1) m) (hp : p x = false) (hq : q y = false) (hm : f x = g y) : Marked f g p q x (n + 1) y (m + 1) := by
  unfold Marked at *
  rw [un_miss f p n x hp, un_miss g q m y hq, cnt_miss p n x hp, cnt_miss q m y hq, lc_front_match f g x y n m hm, hm, h.1]
  exact ⟨rfl, by have := h.2; omega⟩
/-- a line that both parts end with -/
theorem Marked.back (h : Marked f g p q x n y m) (hp : p (x + n) = false) (hq : q (y + m) = false) (hm : f (x + n) = g (y + m)) : Marked f g p q x (n + 1) y (m + 1) := by
  unfold Marked at *
  rw [un_add f p 1 n x, un_add g q 1 m y, cnt_add p 1 n x, cnt_add q 1 m y, lc_match f g x y n m hm, un_miss f p 0 _ hp, un_miss g q 0 _ hq, cnt_miss p 0 _ hp, cnt_miss q 0 _ hq, hm, h.1]
  refine ⟨rfl, ?_⟩
  have := h.2
  simp only [cnt]
  omega
/-- two parts behind one another, met at a point of a shortest edit -/
theorem Marked.cat {n' m' : Nat} (h : Marked f g p q x n y m) (h' : Marked f g p q (x + n) n' (y + m) m')
    (hd : ((n : Int) + m - 2 * lc f g x y n m) + ((n' : Int) + m' - 2 * lc f g (x + n) (y + m) n' m') = ((n + n' : Nat) : Int) + (m + m' : Nat) - 2 * lc f g x y (n + n') (m + m')) :
    Marked f g p q x (n + n') y (m + m') := by
  unfold Marked at *
  rw [un_add f p n' n x, un_add g q m' m y, cnt_add p n' n x, cnt_add q m' m y, h.1, h'.1]
  exact ⟨rfl, by have := h.2; have := h'.2; omega⟩
end
end Go.Proofs.Qxb6602961a.Myers
