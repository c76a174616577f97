/- ZZSplit, walked; then the law. -/
import Derived.Test.Qxb6602961aSplit
namespace Go.Proofs.Qxb6602961a.W
open Go.RowKit Myers
set_option linter.unusedVariables false

/-- (x, y) lies on a shortest edit of the parts, with edits on both sides -/
def OnEdit (f g : Nat → Int) (aLo aHi bLo bHi x y : Nat) : Prop :=
  aLo ≤ x ∧ x ≤ aHi ∧ bLo ≤ y ∧ y ≤ bHi ∧
  0 < ((x - aLo : Nat) : Int) + (y - bLo : Nat) - 2 * lc f g aLo bLo (x - aLo) (y - bLo) ∧
  0 < ((aHi - x : Nat) : Int) + (bHi - y : Nat) - 2 * lc f g x y (aHi - x) (bHi - y) ∧
  (((x - aLo : Nat) : Int) + (y - bLo : Nat) - 2 * lc f g aLo bLo (x - aLo) (y - bLo)) + (((aHi - x : Nat) : Int) + (bHi - y : Nat) - 2 * lc f g x y (aHi - x) (bHi - y)) = ((aHi - aLo : Nat) : Int) + (bHi - bLo : Nat) - 2 * lc f g aLo bLo (aHi - aLo) (bHi - bLo)

theorem Same2.below {F G B : Nat} {w w' : World} (h : Same2 F G w w') (hF : B ≤ F) (hG : B ≤ G) : Below B w w' :=
  ⟨h.os, h.tape, h.output, by rw [h.size]; exact Nat.le_refl _, fun k hk => h.block k (by omega) (by omega)⟩

/-- split called with a differ whose blocks are all new -/
theorem split_new (Bd Ba Bb F G : Nat) (la lb ca cb N : Nat) (aLo aHi bLo bHi : Nat) (f g : Nat → Int) (w W : World)
    (hW : Below w.heap.size w W) (hF : w.heap.size ≤ F) (hG : w.heap.size ≤ G) (hFG : F ≠ G)
    (d0 : W.cell? ⟨Bd, 0, none⟩ = some (.slice (some ⟨Ba, 0, none⟩) la ca)) (d1 : W.cell? ⟨Bd, 1, none⟩ = some (.slice (some ⟨Bb, 0, none⟩) lb cb))
    (d4 : W.cell? ⟨Bd, 4, none⟩ = some (.slice (some ⟨F, 0, none⟩) N N)) (d5 : W.cell? ⟨Bd, 5, none⟩ = some (.slice (some ⟨G, 0, none⟩) N N))
    (h1 : aLo < aHi) (h2 : aHi ≤ la) (h3 : la ≤ ca) (h4 : bLo < bHi) (h5 : bHi ≤ lb) (h6 : lb ≤ cb) (h7 : la ≤ 1024) (h8 : lb ≤ 1024) (hN : N = la + lb + 1)
    (hca : ∀ i, i < la → w.cell? ⟨Ba, i, none⟩ = some (.int .i64 (f i))) (hcb : ∀ i, i < lb → w.cell? ⟨Bb, i, none⟩ = some (.int .i64 (g i)))
    (hBF : Blk W F (List.replicate N 0)) (hBG : Blk W G (List.replicate N 0))
    (hne1 : f aLo ≠ g bLo) (hne2 : f (aHi - 1) ≠ g (bHi - 1)) :
    Calls Try.prog 21 #[.pointer (some ⟨Bd, 0, none⟩), .int .i64 aLo, .int .i64 aHi, .int .i64 bLo, .int .i64 bHi] W fun e w' =>
      ∃ (x y : Nat), e = .returned (.tuple #[.int .i64 x, .int .i64 y]) ∧ OnEdit f g aLo aHi bLo bHi x y ∧ Below w.heap.size w w' := by
  have ha : Ba < w.heap.size := World.block_lt_of_cell? _ _ (hca 0 (by omega))
  have hb : Bb < w.heap.size := World.block_lt_of_cell? _ _ (hcb 0 (by omega))
  refine (split_any Bd Ba Bb F G la lb ca cb N aLo aHi bLo bHi f g _ _ W d0 d1 d4 d5 h1 h2 h3 h4 h5 h6 h7 h8 (by omega) (by omega) (fun i hi => by rw [hW.cell (by exact ha)]; exact hca i hi) (fun i hi => by rw [hW.cell (by exact hb)]; exact hcb i hi)
    hBF hBG (by simp) (by simp) hFG (by omega) (by omega) (by omega) (by omega) hne1 hne2).mono ?_
  rintro e w' ⟨x, y, fs', gs', he, q1, q2, q3, q4, q5, q6, q7, q8, q9, q10, q11, q12⟩
  exact ⟨x, y, he, ⟨q1, q2, q3, q4, q5, q6, q7⟩, hW.trans (q12.below hF hG)⟩

theorem boxed_cell (w : World) (o1 o2 : Obj) (c : Array Value) (t : TypeId) (i : Nat) (v : Value) (h : c[i]? = some v) : ((((w.alloc o1).alloc o2).alloc (.cells c t)).drew).cell? ⟨w.heap.size + 1 + 1, i, none⟩ = some v := by
  have := World.cell?_alloc_new ((w.alloc o1).alloc o2) c t i
  rw [World.size_alloc, World.size_alloc, h] at this
  exact this
theorem below3 (w : World) (o1 o2 o3 : Obj) : Below w.heap.size w (((w.alloc o1).alloc o2).alloc o3).drew :=
  ((((Below.refl _ _).alloc (Nat.le_refl _) _).alloc (by rw [World.size_alloc]; omega) _).alloc (by rw [World.size_alloc, World.size_alloc]; omega) _).drew
theorem made2 (w : World) (o1 o3 : Obj) (n : Nat) : Blk (((w.alloc o1).alloc (.cells (madeCells #[Value.int .i64 0] n) 3)).alloc o3).drew (w.heap.size + 1) (List.replicate n 0) := by
  have := Blk.made (w.alloc o1) n
  rw [World.size_alloc] at this
  exact (this.alloc _).drew

set_option maxRecDepth 100000 in
set_option maxHeartbeats 1000000 in
theorem zzsplit_any (Ba Bb : Nat) (la lb ca cb : Nat) (aLo aHi bLo bHi : Nat) (f g : Nat → Int) (w : World)
    (h1 : aLo < aHi) (h2 : aHi ≤ la) (h3 : la ≤ ca) (h4 : bLo < bHi) (h5 : bHi ≤ lb) (h6 : lb ≤ cb) (h7 : la ≤ 1024) (h8 : lb ≤ 1024)
    (hca : ∀ i, i < la → w.cell? ⟨Ba, i, none⟩ = some (.int .i64 (f i))) (hcb : ∀ i, i < lb → w.cell? ⟨Bb, i, none⟩ = some (.int .i64 (g i)))
    (hne1 : f aLo ≠ g bLo) (hne2 : f (aHi - 1) ≠ g (bHi - 1)) :
    Calls Try.prog 12 #[.slice (some ⟨Ba, 0, none⟩) la ca, .slice (some ⟨Bb, 0, none⟩) lb cb, .int .i64 aLo, .int .i64 aHi, .int .i64 bLo, .int .i64 bHi] w fun e w' =>
      ∃ (x y : Nat), e = .returned (.tuple #[.int .i64 x, .int .i64 y]) ∧ OnEdit f g aLo aHi bLo bHi x y ∧ Below w.heap.size w w' := by
  have SPL : Hid (∀ (Bd F G : Nat) (W : World), Below w.heap.size w W → w.heap.size ≤ F → w.heap.size ≤ G → F ≠ G →
      W.cell? ⟨Bd, 0, none⟩ = some (.slice (some ⟨Ba, 0, none⟩) la ca) → W.cell? ⟨Bd, 1, none⟩ = some (.slice (some ⟨Bb, 0, none⟩) lb cb) →
      W.cell? ⟨Bd, 4, none⟩ = some (.slice (some ⟨F, 0, none⟩) (la + lb + 1) (la + lb + 1)) → W.cell? ⟨Bd, 5, none⟩ = some (.slice (some ⟨G, 0, none⟩) (la + lb + 1) (la + lb + 1)) →
      Blk W F (List.replicate (la + lb + 1) 0) → Blk W G (List.replicate (la + lb + 1) 0) →
      Calls Try.prog 21 #[.pointer (some ⟨Bd, 0, none⟩), .int .i64 aLo, .int .i64 aHi, .int .i64 bLo, .int .i64 bHi] W fun e w' =>
        ∃ (x y : Nat), e = .returned (.tuple #[.int .i64 x, .int .i64 y]) ∧ OnEdit f g aLo aHi bLo bHi x y ∧ Below w.heap.size w w') :=
    fun Bd F G W hW hF hG hFG d0 d1 d4 d5 hBF hBG => split_new Bd Ba Bb F G la lb ca cb _ aLo aHi bLo bHi f g w W hW hF hG hFG d0 d1 d4 d5 h1 h2 h3 h4 h5 h6 h7 h8 rfl hca hcb hBF hBG hne1 hne2
  clear hca hcb hne1 hne2 h1 h2 h3 h4 h5 h6
  have ec : ((la + lb + 1 : Nat) : Int) = (la : Int) + (lb : Int) + 1 := by omega
  have hmk := fun w => run_make_row' (P := Try.prog) 22 3 (.int .i64 0) 8 Try.underlying22 info3 rfl .i64 .i64 (la + lb + 1) (by omega) (by omega) w
  rw [ec] at hmk
  clear ec
  go_enter Try.func12, Try.ntmps12
  go_wp2
  go_region
  · go_wp2_with fail
    refine (SPL.out _ w.heap.size (w.heap.size + 1) _ (below3 _ _ _ _) (by omega) (by omega) (by omega) (boxed_cell _ _ _ _ _ _ _ rfl) (boxed_cell _ _ _ _ _ _ _ rfl) (boxed_cell _ _ _ _ _ _ _ rfl) (boxed_cell _ _ _ _ _ _ _ rfl) (((Blk.made w _).alloc _).alloc _).drew (made2 _ _ _ _)).mono ?_
    rintro e w' ⟨x, y, rfl, hon, hbel⟩
    have HON : Hid (OnEdit f g aLo aHi bLo bHi x y) := hon
    have HBE : Hid (Below w.heap.size w w') := hbel
    clear hon hbel
    go_wp2
    go_ret2
    exact ⟨x, y, rfl, HON.out, HBE.out⟩
  · go_wp2_with fail
    refine (SPL.out _ (w.heap.size + 1) w.heap.size _ (below3 _ _ _ _) (by omega) (by omega) (by omega) (boxed_cell _ _ _ _ _ _ _ rfl) (boxed_cell _ _ _ _ _ _ _ rfl) (boxed_cell _ _ _ _ _ _ _ rfl) (boxed_cell _ _ _ _ _ _ _ rfl) (made2 _ _ _ _) (((Blk.made w _).alloc _).alloc _).drew).mono ?_
    rintro e w' ⟨x, y, rfl, hon, hbel⟩
    have HON : Hid (OnEdit f g aLo aHi bLo bHi x y) := hon
    have HBE : Hid (Below w.heap.size w w') := hbel
    clear hon hbel
    go_wp2
    go_ret2
    exact ⟨x, y, rfl, HON.out, HBE.out⟩
end Go.Proofs.Qxb6602961a.W
