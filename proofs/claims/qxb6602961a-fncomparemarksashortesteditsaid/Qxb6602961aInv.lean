/- THE PLAIN MATHEMATICS, FIFTH PART: the invariants of the loops of split. No Go in sight. -/
import Derived.Test.Qxb6602961aMeet
namespace Go.Proofs.Qxb6602961a.Myers
set_option linter.unusedVariables false

def inF (n m : Nat) (e k : Int) : Prop := -(m : Int) ≤ k ∧ k ≤ n ∧ -e ≤ k ∧ k ≤ e ∧ (k - e) % 2 = 0
def inB (n m : Nat) (e k : Int) : Prop := -(m : Int) ≤ k ∧ k ≤ n ∧ (n : Int) - m - e ≤ k ∧ k ≤ (n : Int) - m + e ∧ (k - ((n : Int) - m) - e) % 2 = 0
/-- what the scratch row holds of diagonal k -/
def val (m : Nat) (fs : List Int) (k : Int) : Int := fs.getD (k + m).toNat 0
/-- 'diagonals' of the Go text -/
def dlo (lo first : Int) : Int := if lo < first then lo + (first - lo + 1) / 2 * 2 else lo
def dhi (hi last : Int) : Int := if last < hi then hi - (hi - last + 1) / 2 * 2 else hi
def RgF (n m : Nat) (e lo hi : Int) : Prop := (e = 0 ∧ lo = (n : Int) + 1 ∧ hi = -(m : Int) - 1) ∨ (1 ≤ e ∧ lo = dlo (-(e - 1)) (-(m : Int)) ∧ hi = dhi (e - 1) n)
def RgB (n m : Nat) (e lo hi : Int) : Prop := (e = 0 ∧ lo = (n : Int) + 1 ∧ hi = -(m : Int) - 1) ∨ (1 ≤ e ∧ lo = dlo ((n : Int) - m - (e - 1)) (-(m : Int)) ∧ hi = dhi ((n : Int) - m + (e - 1)) n)

theorem val_set_same (m : Nat) (fs : List Int) (k X : Int) (h0 : -(m : Int) ≤ k) (h : (k + m).toNat < fs.length) : val m (fs.set (k + m).toNat X) k = X := by
  simp [val, h]
theorem val_set_other (m : Nat) (fs : List Int) (k l X : Int) (hk : -(m : Int) ≤ k) (hl : -(m : Int) ≤ l) (h : k ≠ l) : val m (fs.set (k + m).toNat X) l = val m fs l := by
  have : (k + m).toNat ≠ (l + m).toNat := by omega
  simp [val, this]

theorem dlo_spec (lo first : Int) : lo ≤ dlo lo first ∧ first ≤ dlo lo first ∧ (dlo lo first - lo) % 2 = 0 ∧ (dlo lo first = lo ∨ (lo < first ∧ dlo lo first ≤ first + 1)) := by
  unfold dlo; split <;> omega
theorem dhi_spec (hi last : Int) : dhi hi last ≤ hi ∧ dhi hi last ≤ last ∧ (dhi hi last - hi) % 2 = 0 ∧ (dhi hi last = hi ∨ (last < hi ∧ last - 1 ≤ dhi hi last)) := by
  unfold dhi; split <;> omega

section
variable (n m : Nat) (M : Nat → Nat → Prop) (P S : Nat → Nat → Int) (D : Int)

/-- at the head of step e -/
structure Outer (e fLo fHi bLo bHi : Int) (fs gs : List Int) : Prop where
  e0 : 0 ≤ e
  rf : RgF n m e fLo fHi
  rb : RgB n m e bLo bHi
  f : ∀ k, inF n m (e - 1) k → FOK n m P S D (e - 1) k (val m fs k)
  b : ∀ k, inB n m (e - 1) k → BOK n m P S D (e - 1) k (val m gs k)
  odd : ((n : Int) - m) % 2 = 1 → 2 * e - 1 ≤ D
  even : ((n : Int) - m) % 2 = 0 → 2 * e ≤ D
  fl : n + m < fs.length
  gl : n + m < gs.length

/-- at the head of diagonal k of step e, from the start -/
structure Fwd (e fLo fHi bLo bHi k : Int) (fs gs : List Int) : Prop where
  e0 : 0 ≤ e
  rf : RgF n m e fLo fHi
  rb : RgB n m e bLo bHi
  k0 : -(m : Int) ≤ k ∧ -e ≤ k ∧ (k - e) % 2 = 0
  f : ∀ k, inF n m (e - 1) k → FOK n m P S D (e - 1) k (val m fs k)
  b : ∀ k, inB n m (e - 1) k → BOK n m P S D (e - 1) k (val m gs k)
  got : ∀ l, inF n m e l → l < k → FOK n m P S D e l (val m fs l) ∧ (((n : Int) - m) % 2 = 1 → inB n m (e - 1) l → ¬ (0 ≤ val m gs l ∧ val m gs l ≤ val m fs l))
  odd : ((n : Int) - m) % 2 = 1 → 2 * e - 1 ≤ D
  even : ((n : Int) - m) % 2 = 0 → 2 * e ≤ D
  fl : n + m < fs.length
  gl : n + m < gs.length

/-- at the head of diagonal k of step e, from the end -/
structure Bwd (e fLo fHi bLo bHi k : Int) (fs gs : List Int) : Prop where
  e0 : 0 ≤ e
  rf : fLo = dlo (-e) (-(m : Int)) ∧ fHi = dhi e n
  rb : RgB n m e bLo bHi
  k0 : -(m : Int) ≤ k ∧ (n : Int) - m - e ≤ k ∧ (k - ((n : Int) - m) - e) % 2 = 0
  f : ∀ k, inF n m e k → FOK n m P S D e k (val m fs k)
  b : ∀ k, inB n m (e - 1) k → BOK n m P S D (e - 1) k (val m gs k)
  got : ∀ l, inB n m e l → l < k → BOK n m P S D e l (val m gs l) ∧ (((n : Int) - m) % 2 = 0 → inF n m e l → ¬ (0 ≤ val m gs l ∧ val m gs l ≤ val m fs l))
  odd : ((n : Int) - m) % 2 = 1 → 2 * e + 1 ≤ D
  even : ((n : Int) - m) % 2 = 0 → 2 * e ≤ D
  fl : n + m < fs.length
  gl : n + m < gs.length
end

section
variable {n m : Nat} {M : Nat → Nat → Prop} {P S : Nat → Nat → Int} {D : Int} {e fLo fHi bLo bHi k : Int} {fs gs : List Int}

theorem outer_start (G : Grid n m M P S D) (hf : n + m < fs.length) (hg : n + m < gs.length) (hD : 0 ≤ D) :
    Outer n m P S D 0 ((n : Int) + 1) (-(m : Int) - 1) ((n : Int) + 1) (-(m : Int) - 1) fs gs where
  e0 := Int.le_refl _
  rf := .inl ⟨rfl, rfl, rfl⟩
  rb := .inl ⟨rfl, rfl, rfl⟩
  f := fun k h => by unfold inF at h; omega
  b := fun k h => by unfold inB at h; omega
  odd := fun _ => by omega
  even := fun _ => by omega
  fl := hf
  gl := hg

/-- the loop over e ends before n + m is passed -/
theorem Outer.stop (G : Grid n m M P S D) (h : Outer n m P S D e fLo fHi bLo bHi fs gs) (hnm : 0 < n + m) : e ≤ (n : Int) + m := by
  have := G.dle
  have := h.odd
  have := h.even
  omega

theorem Outer.fwd (h : Outer n m P S D e fLo fHi bLo bHi fs gs) : Fwd n m P S D e fLo fHi bLo bHi (dlo (-e) (-(m : Int))) fs gs where
  e0 := h.e0
  rf := h.rf
  rb := h.rb
  k0 := by have := dlo_spec (-e) (-(m : Int)); omega
  f := h.f
  b := h.b
  got := fun l hl hlt => by have := dlo_spec (-e) (-(m : Int)); unfold inF at hl; omega
  odd := h.odd
  even := h.even
  fl := h.fl
  gl := h.gl

/-- the ranges of the last step, asked from diagonal k of this one -/
theorem rgF_up (hr : RgF n m e fLo fHi) (hk : inF n m e k) : (k + 1 ≤ fHi → inF n m (e - 1) (k + 1)) ∧ (k + 1 ≤ e - 1 → k + 1 ≤ n → k + 1 ≤ fHi) := by
  unfold inF at *
  rcases hr with ⟨rfl, rfl, rfl⟩ | ⟨h1, rfl, rfl⟩
  · omega
  · have := dhi_spec (e - 1) n; omega
theorem rgF_down (hr : RgF n m e fLo fHi) (hk : inF n m e k) : (fLo ≤ k - 1 → inF n m (e - 1) (k - 1)) ∧ (-(e - 1) ≤ k - 1 → -(m : Int) ≤ k - 1 → fLo ≤ k - 1) := by
  unfold inF at *
  rcases hr with ⟨rfl, rfl, rfl⟩ | ⟨h1, rfl, rfl⟩
  · omega
  · have := dlo_spec (-(e - 1)) (-(m : Int)); omega
theorem rgB_up (hr : RgB n m e bLo bHi) (hk : inB n m e k) : (k + 1 ≤ bHi → inB n m (e - 1) (k + 1)) ∧ (k + 1 ≤ (n : Int) - m + (e - 1) → k + 1 ≤ n → k + 1 ≤ bHi) := by
  unfold inB at *
  rcases hr with ⟨rfl, rfl, rfl⟩ | ⟨h1, rfl, rfl⟩
  · omega
  · have := dhi_spec ((n : Int) - m + (e - 1)) n; omega
theorem rgB_down (hr : RgB n m e bLo bHi) (hk : inB n m e k) : (bLo ≤ k - 1 → inB n m (e - 1) (k - 1)) ∧ ((n : Int) - m - (e - 1) ≤ k - 1 → -(m : Int) ≤ k - 1 → bLo ≤ k - 1) := by
  unfold inB at *
  rcases hr with ⟨rfl, rfl, rfl⟩ | ⟨h1, rfl, rfl⟩
  · omega
  · have := dlo_spec ((n : Int) - m - (e - 1)) (-(m : Int)); omega
/-- the ranges of the last step from the end hold the diagonals of the right parity that lie in it -/
theorem rgB_in (hr : RgB n m e bLo bHi) (hp : (k - ((n : Int) - m) - (e - 1)) % 2 = 0) : (bLo ≤ k ∧ k ≤ bHi) ↔ inB n m (e - 1) k := by
  unfold inB
  rcases hr with ⟨rfl, rfl, rfl⟩ | ⟨h1, rfl, rfl⟩
  · omega
  · have := dlo_spec ((n : Int) - m - (e - 1)) (-(m : Int)); have := dhi_spec ((n : Int) - m + (e - 1)) n; omega
theorem rgF_in (hr : fLo = dlo (-e) (-(m : Int)) ∧ fHi = dhi e n) (hp : (k - e) % 2 = 0) : (fLo ≤ k ∧ k ≤ fHi) ↔ inF n m e k := by
  unfold inF
  obtain ⟨rfl, rfl⟩ := hr
  have := dlo_spec (-e) (-(m : Int)); have := dhi_spec e n; omega

theorem Fwd.inF (h : Fwd n m P S D e fLo fHi bLo bHi k fs gs) (hk : k ≤ dhi e n) : inF n m e k := by
  have := h.k0
  have := dhi_spec e n
  unfold Myers.inF
  omega
theorem Bwd.inB (h : Bwd n m P S D e fLo fHi bLo bHi k fs gs) (hk : k ≤ dhi ((n : Int) - m + e) n) : inB n m e k := by
  have := h.k0
  have := dhi_spec ((n : Int) - m + e) n
  unfold Myers.inB
  omega

/-- what the two neighbours give at diagonal k: X is as the step says -/
theorem Fwd.ok (G : Grid n m M P S D) (h : Fwd n m P S D e fLo fHi bLo bHi k fs gs) (hk : k ≤ dhi e n) (X : Int)
    (hX1 : x0F e k fLo fHi n m (val m fs (k + 1)) (val m fs (k - 1)) < 0 → X = -1)
    (hX2 : 0 ≤ x0F e k fLo fHi n m (val m fs (k + 1)) (val m fs (k - 1)) → Snake n m M k (x0F e k fLo fHi n m (val m fs (k + 1)) (val m fs (k - 1))) X) :
    FOK n m P S D e k X := by
  have hin := h.inF hk
  have hu := rgF_up h.rf hin
  have hd := rgF_down h.rf hin
  have hin' := hin
  unfold Myers.inF at hin'
  exact step G e k fLo fHi _ _ X h.e0 (by omega) (by omega) (fun q => h.f _ (hu.1 q)) (fun q => h.f _ (hd.1 q)) hu.2 hd.2 (fun q => by omega) hX1 hX2

/-- the point at which diagonal k is begun lies in the grid -/
theorem Fwd.begin (h : Fwd n m P S D e fLo fHi bLo bHi k fs gs) (hk : k ≤ dhi e n) (hx : 0 ≤ x0F e k fLo fHi n m (val m fs (k + 1)) (val m fs (k - 1))) :
    x0F e k fLo fHi n m (val m fs (k + 1)) (val m fs (k - 1)) ≤ n ∧ 0 ≤ x0F e k fLo fHi n m (val m fs (k + 1)) (val m fs (k - 1)) - k ∧ x0F e k fLo fHi n m (val m fs (k + 1)) (val m fs (k - 1)) - k ≤ m := by
  have hin := h.inF hk
  have hu := rgF_up h.rf hin
  have hd := rgF_down h.rf hin
  have hin' := hin
  unfold Myers.inF at hin'
  rcases x0F_cases hx with ⟨q1, q2⟩ | ⟨q1, q2, q3, q4⟩ | ⟨q1, q2, q3, q4⟩
  · omega
  · rcases (h.f _ (hu.1 q2)).1 with r | ⟨x, y, r1, r2, r3, r4, r5⟩ <;> omega
  · rcases (h.f _ (hd.1 q2)).1 with r | ⟨x, y, r1, r2, r3, r4, r5⟩ <;> omega

theorem Fwd.next (h : Fwd n m P S D e fLo fHi bLo bHi k fs gs) (hk : k ≤ dhi e n) (X : Int) (hX : FOK n m P S D e k X)
    (hno : ((n : Int) - m) % 2 = 1 → bLo ≤ k → k ≤ bHi → ¬ (0 ≤ val m gs k ∧ val m gs k ≤ X)) :
    Fwd n m P S D e fLo fHi bLo bHi (k + 2) (fs.set (k + m).toNat X) gs where
  e0 := h.e0
  rf := h.rf
  rb := h.rb
  k0 := by have := h.k0; omega
  f := fun l hl => by
    have := h.k0
    have hl' := hl
    unfold Myers.inF at hl'
    rw [val_set_other m fs k l X (by omega) (by omega) (by omega)]
    exact h.f l hl
  b := h.b
  got := fun l hl hlt => by
    have hin := h.inF hk
    have hk' := hin
    have hl' := hl
    unfold Myers.inF at hl' hk'
    by_cases e1 : l = k
    · subst e1
      rw [val_set_same m fs l X (by omega) (by have := h.fl; omega)]
      refine ⟨hX, fun hodd hb => hno hodd ?_ ?_⟩
      · have hb' := hb
        unfold Myers.inB at hb'
        exact ((rgB_in h.rb (by omega)).2 hb).1
      · have hb' := hb
        unfold Myers.inB at hb'
        exact ((rgB_in h.rb (by omega)).2 hb).2
    · rw [val_set_other m fs k l X (by omega) (by omega) (by omega)]
      exact h.got l hl (by omega)
  odd := h.odd
  even := h.even
  fl := by rw [List.length_set]; exact h.fl
  gl := h.gl

/-- a point of a shortest edit with edits on both sides -/
def Good (n m : Nat) (P S : Nat → Nat → Int) (D X k : Int) : Prop :=
  ∃ x y : Nat, X = x ∧ (x : Int) - y = k ∧ x ≤ n ∧ y ≤ m ∧ 0 < P x y ∧ 0 < S x y ∧ P x y + S x y = D

theorem Fwd.meet (G : Grid n m M P S D) (h : Fwd n m P S D e fLo fHi bLo bHi k fs gs) (hk : k ≤ dhi e n) (X : Int) (hX : FOK n m P S D e k X) (hX0 : 0 ≤ X)
    (hodd : ((n : Int) - m) % 2 = 1) (hb1 : bLo ≤ k) (hb2 : k ≤ bHi) (hm1 : 0 ≤ val m gs k) (hm2 : val m gs k ≤ X) (hD : 2 ≤ D) : Good n m P S D X k := by
  have hin := h.inF hk
  unfold Myers.inF at hin
  have hb := h.b k ((rgB_in h.rb (by omega)).1 ⟨hb1, hb2⟩)
  rcases hX.1 with r | ⟨x, y, r1, r2, r3, r4, r5⟩
  · omega
  · rcases hb.1 with q | ⟨u, v, q1, q2, q3, q4, q5⟩
    · omega
    · refine ⟨x, y, r1, r2, r3, r4, ?_⟩
      have hs := G.sdiags u v (x - u) (by omega) (by omega)
      rw [show u + (x - u) = x by omega, show v + (x - u) = y by omega] at hs
      have hsum := G.sum x y r3 r4
      have := h.odd hodd
      have := G.ppar n m (by omega) (by omega)
      have := G.pnm
      omega

theorem Fwd.bwd (G : Grid n m M P S D) (h : Fwd n m P S D e fLo fHi bLo bHi k fs gs) (hk : dhi e n < k) :
    Bwd n m P S D e (dlo (-e) (-(m : Int))) (dhi e n) bLo bHi (dlo ((n : Int) - m - e) (-(m : Int))) fs gs where
  e0 := h.e0
  rf := ⟨rfl, rfl⟩
  rb := h.rb
  k0 := by have := dlo_spec ((n : Int) - m - e) (-(m : Int)); omega
  f := fun l hl => by
    refine (h.got l hl ?_).1
    have := dhi_spec e n
    unfold Myers.inF at hl
    have := h.k0
    omega
  b := h.b
  got := fun l hl hlt => by have := dlo_spec ((n : Int) - m - e) (-(m : Int)); unfold Myers.inB at hl; omega
  odd := fun hodd => by
    have h1 := h.odd hodd
    have hp := G.ppar n m (by omega) (by omega)
    have hpnm := G.pnm
    by_cases hD : 2 * e + 1 ≤ D
    · exact hD
    · exfalso
      have hD' : D = 2 * e - 1 := by omega
      obtain ⟨x, y, hx, hy, hP, hon⟩ := G.mid e h.e0 (n + m) n m rfl (Nat.le_refl _) (Nat.le_refl _) (by have := G.snm; omega) (by
        have := h.e0
        by_cases he0 : e = 0
        · have := G.plo n m (by omega) (by omega); omega
        · omega)
      have hpl := G.plo x y hx hy
      have hsl := G.slo x y hx hy
      have hpp := G.ppar x y hx hy
      have hinF : Myers.inF n m e ((x : Int) - y) := by unfold Myers.inF; omega
      have hinB : Myers.inB n m (e - 1) ((x : Int) - y) := by unfold Myers.inB; omega
      have hg := h.got ((x : Int) - y) hinF (by
        have := dhi_spec e n
        have := h.k0
        unfold Myers.inF at hinF
        omega)
      have c1 := hg.1.2 x y hx hy rfl hon hP
      have c2 := (h.b _ hinB).2 x y hx hy rfl hon (by omega)
      exact hg.2 hodd hinB (by omega)
  even := h.even
  fl := h.fl
  gl := h.gl

theorem Bwd.ok (G : Grid n m M P S D) (h : Bwd n m P S D e fLo fHi bLo bHi k fs gs) (hk : k ≤ dhi ((n : Int) - m + e) n) (X : Int)
    (hX1 : (n : Int) < x0B e k bLo bHi n (val m gs (k - 1)) (val m gs (k + 1)) → X = -1)
    (hX2 : x0B e k bLo bHi n (val m gs (k - 1)) (val m gs (k + 1)) ≤ n → SnakeB n m M k (x0B e k bLo bHi n (val m gs (k - 1)) (val m gs (k + 1))) X) :
    BOK n m P S D e k X := by
  have hin := h.inB hk
  have hu := rgB_up h.rb hin
  have hd := rgB_down h.rb hin
  have hin' := hin
  unfold Myers.inB at hin'
  exact stepB G e k bLo bHi _ _ X h.e0 (by omega) (by omega) (fun q => h.b _ (hd.1 q)) (fun q => h.b _ (hu.1 q)) hd.2 hu.2 (fun q => by omega) hX1 hX2

theorem x0B_cases {e k bLo bHi n v1 v2 : Int} (h : x0B e k bLo bHi n v1 v2 ≤ n) :
    (e = 0 ∧ x0B e k bLo bHi n v1 v2 = n) ∨ (x0B e k bLo bHi n v1 v2 = v1 ∧ bLo ≤ k - 1 ∧ 0 ≤ v1 ∧ 0 ≤ v1 - k) ∨ (x0B e k bLo bHi n v1 v2 = v2 - 1 ∧ k + 1 ≤ bHi ∧ 0 < v2) := by
  unfold x0B at *
  repeat' split at h
  all_goals (repeat' split) <;> omega
theorem Bwd.begin (h : Bwd n m P S D e fLo fHi bLo bHi k fs gs) (hk : k ≤ dhi ((n : Int) - m + e) n) (hx : x0B e k bLo bHi n (val m gs (k - 1)) (val m gs (k + 1)) ≤ n) :
    0 ≤ x0B e k bLo bHi n (val m gs (k - 1)) (val m gs (k + 1)) ∧ 0 ≤ x0B e k bLo bHi n (val m gs (k - 1)) (val m gs (k + 1)) - k ∧ x0B e k bLo bHi n (val m gs (k - 1)) (val m gs (k + 1)) - k ≤ m := by
  have hin := h.inB hk
  have hu := rgB_up h.rb hin
  have hd := rgB_down h.rb hin
  have hin' := hin
  unfold Myers.inB at hin'
  rcases x0B_cases hx with ⟨q1, q2⟩ | ⟨q1, q2, q3, q4⟩ | ⟨q1, q2, q3⟩
  · omega
  · rcases (h.b _ (hd.1 q2)).1 with r | ⟨x, y, r1, r2, r3, r4, r5⟩ <;> omega
  · rcases (h.b _ (hu.1 q2)).1 with r | ⟨x, y, r1, r2, r3, r4, r5⟩ <;> omega

theorem Bwd.next (h : Bwd n m P S D e fLo fHi bLo bHi k fs gs) (hk : k ≤ dhi ((n : Int) - m + e) n) (X : Int) (hX : BOK n m P S D e k X)
    (hno : ((n : Int) - m) % 2 = 0 → fLo ≤ k → k ≤ fHi → ¬ (0 ≤ X ∧ X ≤ val m fs k)) :
    Bwd n m P S D e fLo fHi bLo bHi (k + 2) fs (gs.set (k + m).toNat X) where
  e0 := h.e0
  rf := h.rf
  rb := h.rb
  k0 := by have := h.k0; omega
  f := h.f
  b := fun l hl => by
    have := h.k0
    have hl' := hl
    unfold Myers.inB at hl'
    rw [val_set_other m gs k l X (by omega) (by omega) (by omega)]
    exact h.b l hl
  got := fun l hl hlt => by
    have hin := h.inB hk
    have hk' := hin
    have hl' := hl
    unfold Myers.inB at hl' hk'
    by_cases e1 : l = k
    · subst e1
      rw [val_set_same m gs l X (by omega) (by have := h.gl; omega)]
      refine ⟨hX, fun hev hf => hno hev ?_ ?_⟩
      · have hf' := hf
        unfold Myers.inF at hf'
        exact ((rgF_in h.rf (by omega)).2 hf).1
      · have hf' := hf
        unfold Myers.inF at hf'
        exact ((rgF_in h.rf (by omega)).2 hf).2
    · rw [val_set_other m gs k l X (by omega) (by omega) (by omega)]
      exact h.got l hl (by omega)
  odd := h.odd
  even := h.even
  fl := h.fl
  gl := by rw [List.length_set]; exact h.gl

theorem Bwd.meet (G : Grid n m M P S D) (h : Bwd n m P S D e fLo fHi bLo bHi k fs gs) (hk : k ≤ dhi ((n : Int) - m + e) n) (X : Int) (hX : BOK n m P S D e k X) (hX0 : 0 ≤ X)
    (hev : ((n : Int) - m) % 2 = 0) (hf1 : fLo ≤ k) (hf2 : k ≤ fHi) (hm : X ≤ val m fs k) (hD : 2 ≤ D) : Good n m P S D X k := by
  have hin := h.inB hk
  unfold Myers.inB at hin
  have hf := h.f k ((rgF_in h.rf (by omega)).1 ⟨hf1, hf2⟩)
  rcases hX.1 with r | ⟨u, v, q1, q2, q3, q4, q5⟩
  · omega
  · rcases hf.1 with q | ⟨x, y, r1, r2, r3, r4, r5⟩
    · omega
    · refine ⟨u, v, q1, q2, q3, q4, ?_⟩
      have hs := G.pdiags u v (x - u) (by omega) (by omega)
      rw [show u + (x - u) = x by omega, show v + (x - u) = y by omega] at hs
      have hsum := G.sum u v q3 q4
      have := h.even hev
      omega

theorem Bwd.outer (G : Grid n m M P S D) (h : Bwd n m P S D e fLo fHi bLo bHi k fs gs) (hk : dhi ((n : Int) - m + e) n < k) :
    Outer n m P S D (e + 1) fLo fHi (dlo ((n : Int) - m - e) (-(m : Int))) (dhi ((n : Int) - m + e) n) fs gs where
  e0 := by have := h.e0; omega
  rf := by
    right
    have := h.e0
    rw [show e + 1 - 1 = e by omega]
    exact ⟨by omega, h.rf⟩
  rb := by
    right
    have := h.e0
    rw [show e + 1 - 1 = e by omega]
    exact ⟨by omega, rfl, rfl⟩
  f := by rw [show e + 1 - 1 = e by omega]; exact h.f
  b := by
    rw [show e + 1 - 1 = e by omega]
    intro l hl
    refine (h.got l hl ?_).1
    have := dhi_spec ((n : Int) - m + e) n
    unfold Myers.inB at hl
    have := h.k0
    omega
  odd := fun hodd => by have := h.odd hodd; omega
  even := fun hev => by
    have h1 := h.even hev
    have hp := G.ppar n m (by omega) (by omega)
    have hpnm := G.pnm
    by_cases hD : 2 * (e + 1) ≤ D
    · exact hD
    · exfalso
      have hD' : D = 2 * e := by omega
      obtain ⟨x, y, hx, hy, hP, hon⟩ := G.mid e h.e0 (n + m) n m rfl (Nat.le_refl _) (Nat.le_refl _) (by have := G.snm; omega) (by have := h.e0; omega)
      have hpl := G.plo x y hx hy
      have hsl := G.slo x y hx hy
      have hpp := G.ppar x y hx hy
      have hinF : Myers.inF n m e ((x : Int) - y) := by unfold Myers.inF; omega
      have hinB : Myers.inB n m e ((x : Int) - y) := by unfold Myers.inB; omega
      have hg := h.got ((x : Int) - y) hinB (by
        have := dhi_spec ((n : Int) - m + e) n
        have := h.k0
        unfold Myers.inB at hinB
        omega)
      have c1 := hg.1.2 x y hx hy rfl hon (by omega)
      have c2 := (h.f _ hinF).2 x y hx hy rfl hon hP
      exact hg.2 hev hinF (by omega)
  fl := h.fl
  gl := h.gl

/-- nought edits: the first lines match -/
theorem Grid.zero (G : Grid n m M P S D) : ∀ x y : Nat, x ≤ n → y ≤ m → P x y = 0 → 1 ≤ x → M 0 0 := by
  intro x
  induction x with
  | zero => intro y _ _ _ h; omega
  | succ x ih =>
    intro y hx hy hp _
    rcases G.ppred (x + 1) y hx hy with ⟨q, _⟩ | ⟨x', y', q, rfl, hM, q3⟩ | ⟨x', q, q2⟩ | ⟨y', rfl, q⟩
    · omega
    · obtain rfl : x = x' := by omega
      by_cases h0 : x = 0
      · subst h0
        have := G.plo 0 y' (by omega) (by omega)
        obtain rfl : y' = 0 := by omega
        exact hM
      · exact ih y' (by omega) (by omega) (by omega) (by omega)
    · obtain rfl : x = x' := by omega
      have := G.plo x y (by omega) (by omega)
      omega
    · have := G.plo (x + 1) y' (by omega) (by omega)
      omega
/-- differing first and last lines: two edits at least -/
theorem Grid.two (G : Grid n m M P S D) (hn : 1 ≤ n) (hm : 1 ≤ m) (h0 : ¬ M 0 0) (h1 : ¬ M (n - 1) (m - 1)) : 2 ≤ D := by
  have hpnm := G.pnm
  rcases G.ppred n m (by omega) (by omega) with ⟨q, _⟩ | ⟨x', y', q1, q2, hM, q3⟩ | ⟨x', q, q2⟩ | ⟨y', q, q2⟩
  · omega
  · exfalso
    rw [show n - 1 = x' by omega, show m - 1 = y' by omega] at h1
    exact h1 hM
  · have := G.plo x' m (by omega) (by omega)
    by_cases hz : P x' m = 0
    · exact absurd (G.zero x' m (by omega) (by omega) hz (by omega)) h0
    · omega
  · have := G.plo n y' (by omega) (by omega)
    by_cases hz : P n y' = 0
    · exact absurd (G.zero n y' (by omega) (by omega) hz (by omega)) h0
    · omega
end
end Go.Proofs.Qxb6602961a.Myers
