/- compare, walked: by induction on how many lines the two parts hold. -/
import Derived.Test.Qxb6602961aCmpL
import Derived.Test.Qxb6602961aMarks
import Derived.Test.Qxb6602961aSplit
namespace Go.Proofs.Qxb6602961a.W
open Go.RowKit Myers
set_option linter.unusedVariables false

/-- the blocks of a differ are all apart -/
structure Apart (Bd CA CB F G Ba Bb : Nat) : Prop where
  d1 : Bd ≠ CA
  d2 : Bd ≠ CB
  d3 : Bd ≠ F
  d4 : Bd ≠ G
  a1 : Ba ≠ CA
  a2 : Ba ≠ CB
  a3 : Ba ≠ F
  a4 : Ba ≠ G
  b1 : Bb ≠ CA
  b2 : Bb ≠ CB
  b3 : Bb ≠ F
  b4 : Bb ≠ G
  c1 : CA ≠ CB
  c2 : CA ≠ F
  c3 : CA ≠ G
  c4 : CB ≠ F
  c5 : CB ≠ G
  f1 : F ≠ G

/-- what a differ holds -/
structure Live (Bd CA CB F G Ba Bb la lb N : Nat) (ao bo : Option Addr) (f g : Nat → Int) (w : World) (ma mb : List Bool) (fs gs : List Int) : Prop where
  d0 : w.cell? ⟨Bd, 0, none⟩ = some (.slice ao la la)
  d1 : w.cell? ⟨Bd, 1, none⟩ = some (.slice bo lb lb)
  d2 : w.cell? ⟨Bd, 2, none⟩ = some (.slice (some ⟨CA, 0, none⟩) la la)
  d3 : w.cell? ⟨Bd, 3, none⟩ = some (.slice (some ⟨CB, 0, none⟩) lb lb)
  d4 : w.cell? ⟨Bd, 4, none⟩ = some (.slice (some ⟨F, 0, none⟩) N N)
  d5 : w.cell? ⟨Bd, 5, none⟩ = some (.slice (some ⟨G, 0, none⟩) N N)
  ca : ∀ i, i < la → w.cell? ⟨Ba, i, none⟩ = some (.int .i64 (f i))
  cb : ∀ i, i < lb → w.cell? ⟨Bb, i, none⟩ = some (.int .i64 (g i))
  bma : BBlk w CA ma
  bmb : BBlk w CB mb
  fw : Blk w F fs
  bw : Blk w G gs
  lma : ma.length = la
  lmb : mb.length = lb
  lfs : fs.length = N
  lgs : gs.length = N

/-- all memory but the differ's marks and scratch is as it was -/
structure Same4 (CA CB F G : Nat) (w w' : World) : Prop where
  os : w'.os = w.os
  tape : w'.tape = w.tape
  output : w'.output = w.output
  size : w'.heap.size = w.heap.size
  block : ∀ k, k ≠ CA → k ≠ CB → k ≠ F → k ≠ G → w'.heap[k]? = w.heap[k]?
theorem Same4.refl (CA CB F G : Nat) (w : World) : Same4 CA CB F G w w := ⟨rfl, rfl, rfl, rfl, fun _ _ _ _ _ => rfl⟩
theorem Same4.trans {CA CB F G : Nat} {a b c : World} (h : Same4 CA CB F G a b) (k : Same4 CA CB F G b c) : Same4 CA CB F G a c :=
  ⟨k.os.trans h.os, k.tape.trans h.tape, k.output.trans h.output, k.size.trans h.size, fun i h1 h2 h3 h4 => (k.block i h1 h2 h3 h4).trans (h.block i h1 h2 h3 h4)⟩
theorem Still.same4 {CA CB F G : Nat} {w w' : World} (h : Still w w') : Same4 CA CB F G w w' := ⟨h.2.1, h.2.2.1, h.2.2.2, by rw [h.1], fun _ _ _ _ _ => by rw [h.1]⟩
theorem Same2.same4 {CA CB F G : Nat} {w w' : World} (h : Same2 F G w w') : Same4 CA CB F G w w' := ⟨h.os, h.tape, h.output, h.size, fun k _ _ h3 h4 => h.block k h3 h4⟩
theorem Same1.same4a {CA CB F G : Nat} {w w' : World} (h : Same1 CA w w') : Same4 CA CB F G w w' := ⟨h.os, h.tape, h.output, h.size, fun k h1 _ _ _ => h.block k h1⟩
theorem Same1.same4b {CA CB F G : Nat} {w w' : World} (h : Same1 CB w w') : Same4 CA CB F G w w' := ⟨h.os, h.tape, h.output, h.size, fun k _ h2 _ _ => h.block k h2⟩
theorem Same2.bblk {F G C : Nat} {w w' : World} {bs : List Bool} (h : Same2 F G w w') (hb : BBlk w C bs) (h1 : C ≠ F) (h2 : C ≠ G) : BBlk w' C bs := by unfold BBlk at hb ⊢; rw [h.block C h1 h2]; exact hb
theorem Same1.bblk {C E : Nat} {w w' : World} {bs : List Bool} (h : Same1 E w w') (hb : BBlk w C bs) (h1 : C ≠ E) : BBlk w' C bs := by unfold BBlk at hb ⊢; rw [h.block C h1]; exact hb
theorem Same1.blk {C E : Nat} {w w' : World} {zs : List Int} (h : Same1 E w w') (hb : Blk w C zs) (h1 : C ≠ E) : Blk w' C zs := by unfold Blk at hb ⊢; rw [h.block C h1]; exact hb

section
variable {Bd CA CB F G Ba Bb la lb N : Nat} {ao bo : Option Addr} {f g : Nat → Int} {w w' : World} {ma mb : List Bool} {fs gs : List Int}
theorem Live.still (h : Live Bd CA CB F G Ba Bb la lb N ao bo f g w ma mb fs gs) (k : Still w w') : Live Bd CA CB F G Ba Bb la lb N ao bo f g w' ma mb fs gs :=
  ⟨by rw [k.cell]; exact h.d0, by rw [k.cell]; exact h.d1, by rw [k.cell]; exact h.d2, by rw [k.cell]; exact h.d3, by rw [k.cell]; exact h.d4, by rw [k.cell]; exact h.d5,
   fun i hi => by rw [k.cell]; exact h.ca i hi, fun i hi => by rw [k.cell]; exact h.cb i hi, h.bma.still k, h.bmb.still k, h.fw.still k, h.bw.still k, h.lma, h.lmb, h.lfs, h.lgs⟩
theorem Live.split (A : Apart Bd CA CB F G Ba Bb) (h : Live Bd CA CB F G Ba Bb la lb N ao bo f g w ma mb fs gs) (k : Same2 F G w w') {fs' gs' : List Int} (hf : Blk w' F fs') (hg : Blk w' G gs') (lf : fs'.length = N) (lg : gs'.length = N) :
    Live Bd CA CB F G Ba Bb la lb N ao bo f g w' ma mb fs' gs' :=
  ⟨by rw [k.cell A.d3 A.d4]; exact h.d0, by rw [k.cell A.d3 A.d4]; exact h.d1, by rw [k.cell A.d3 A.d4]; exact h.d2, by rw [k.cell A.d3 A.d4]; exact h.d3, by rw [k.cell A.d3 A.d4]; exact h.d4, by rw [k.cell A.d3 A.d4]; exact h.d5,
   fun i hi => by rw [k.cell A.a3 A.a4]; exact h.ca i hi, fun i hi => by rw [k.cell A.b3 A.b4]; exact h.cb i hi, k.bblk h.bma A.c2 A.c3, k.bblk h.bmb A.c4 A.c5, hf, hg, h.lma, h.lmb, lf, lg⟩
theorem Live.markA (A : Apart Bd CA CB F G Ba Bb) (h : Live Bd CA CB F G Ba Bb la lb N ao bo f g w ma mb fs gs) (k : Same1 CA w w') {ma' : List Bool} (hm : BBlk w' CA ma') (l : ma'.length = la) :
    Live Bd CA CB F G Ba Bb la lb N ao bo f g w' ma' mb fs gs :=
  ⟨by rw [k.cell A.d1]; exact h.d0, by rw [k.cell A.d1]; exact h.d1, by rw [k.cell A.d1]; exact h.d2, by rw [k.cell A.d1]; exact h.d3, by rw [k.cell A.d1]; exact h.d4, by rw [k.cell A.d1]; exact h.d5,
   fun i hi => by rw [k.cell A.a1]; exact h.ca i hi, fun i hi => by rw [k.cell A.b1]; exact h.cb i hi, hm, k.bblk h.bmb A.c1.symm, k.blk h.fw A.c2.symm, k.blk h.bw A.c3.symm, l, h.lmb, h.lfs, h.lgs⟩
theorem Live.markB (A : Apart Bd CA CB F G Ba Bb) (h : Live Bd CA CB F G Ba Bb la lb N ao bo f g w ma mb fs gs) (k : Same1 CB w w') {mb' : List Bool} (hm : BBlk w' CB mb') (l : mb'.length = lb) :
    Live Bd CA CB F G Ba Bb la lb N ao bo f g w' ma mb' fs gs :=
  ⟨by rw [k.cell A.d2]; exact h.d0, by rw [k.cell A.d2]; exact h.d1, by rw [k.cell A.d2]; exact h.d2, by rw [k.cell A.d2]; exact h.d3, by rw [k.cell A.d2]; exact h.d4, by rw [k.cell A.d2]; exact h.d5,
   fun i hi => by rw [k.cell A.a2]; exact h.ca i hi, fun i hi => by rw [k.cell A.b2]; exact h.cb i hi, k.bblk h.bma A.c1, hm, k.blk h.fw A.c4.symm, k.blk h.bw A.c5.symm, h.lma, l, h.lfs, h.lgs⟩
end

/-- the marks of a list -/
def mk (bs : List Bool) : Nat → Bool := fun i => bs.getD i false

/-- lines that both parts begin with, and lines that both end with, all unmarked -/
theorem marked_wrap {f g : Nat → Int} {p q : Nat → Bool} {aLo bLo x y n m : Nat} (h : Marked f g p q x n y m) (hx : aLo ≤ x) (hxy : x - aLo = y - bLo) (hy : bLo ≤ y)
    (h1 : ∀ s, s < x - aLo → p (aLo + s) = false ∧ q (bLo + s) = false ∧ f (aLo + s) = g (bLo + s)) : Marked f g p q aLo (x - aLo + n) bLo (y - bLo + m) := by
  obtain ⟨T, hT⟩ : ∃ T, T = x - aLo := ⟨_, rfl⟩
  induction T generalizing aLo bLo with
  | zero =>
    obtain rfl : aLo = x := by omega
    obtain rfl : bLo = y := by omega
    simpa using h
  | succ T ih =>
    have := ih (aLo := aLo + 1) (bLo := bLo + 1) (by omega) (by omega) (by omega) (fun s hs => by
      have := h1 (s + 1) (by omega)
      rw [show aLo + (s + 1) = aLo + 1 + s by omega, show bLo + (s + 1) = bLo + 1 + s by omega] at this
      exact this) (by omega)
    have h0 := h1 0 (by omega)
    rw [Nat.add_zero, Nat.add_zero] at h0
    have := this.front h0.1 h0.2.1 h0.2.2
    rw [show x - (aLo + 1) + n + 1 = x - aLo + n by omega, show y - (bLo + 1) + m + 1 = y - bLo + m by omega] at this
    exact this
theorem marked_wrap_end {f g : Nat → Int} {p q : Nat → Bool} {x y n m : Nat} (h : Marked f g p q x n y m) : ∀ T, (∀ s, s < T → p (x + n + s) = false ∧ q (y + m + s) = false ∧ f (x + n + s) = g (y + m + s)) → Marked f g p q x (n + T) y (m + T)
  | 0, _ => h
  | T + 1, h1 => by
    have := marked_wrap_end h T (fun s hs => h1 s (by omega))
    have h0 := h1 T (by omega)
    have := this.back (by rw [← Nat.add_assoc]; exact h0.1) (by rw [← Nat.add_assoc]; exact h0.2.1) (by rw [← Nat.add_assoc, ← Nat.add_assoc]; exact h0.2.2)
    rw [Nat.add_assoc, Nat.add_assoc] at this
    exact this

/-- the parts without the lines that both begin and end with are marked: so are the whole parts -/
theorem marked_all {f g : Nat → Int} {ma mb ma' mb' : List Bool} {aLo aHi bLo bHi x x2 y y2 : Nat} (h : Marked f g (mk ma') (mk mb') x (x2 - x) y (y2 - y))
    (hx : aLo ≤ x) (hx2 : x ≤ x2) (hx3 : x2 ≤ aHi) (hy : bLo ≤ y) (hy2 : y ≤ y2) (hy3 : y2 ≤ bHi) (e1 : x - aLo = y - bLo) (e2 : aHi - x2 = bHi - y2)
    (m1 : ∀ s, s < x - aLo → f (aLo + s) = g (bLo + s)) (m2 : ∀ s, s < aHi - x2 → f (x2 + s) = g (y2 + s))
    (ua : ∀ i, aLo ≤ i → i < aHi → ma.getD i false = false) (ub : ∀ i, bLo ≤ i → i < bHi → mb.getD i false = false) (oa : Out ma ma' x x2) (ob : Out mb mb' y y2) :
    Marked f g (mk ma') (mk mb') aLo (aHi - aLo) bLo (bHi - bLo) := by
  have w1 := marked_wrap_end h (aHi - x2) (fun s hs => by
    rw [show x + (x2 - x) + s = x2 + s by omega, show y + (y2 - y) + s = y2 + s by omega]
    refine ⟨?_, ?_, m2 s hs⟩
    · show ma'.getD (x2 + s) false = false
      rw [oa.2 _ (by omega)]; exact ua _ (by omega) (by omega)
    · show mb'.getD (y2 + s) false = false
      rw [ob.2 _ (by omega)]; exact ub _ (by omega) (by omega))
  have w2 := marked_wrap w1 hx e1 hy (fun s hs => by
    refine ⟨?_, ?_, m1 s hs⟩
    · show ma'.getD (aLo + s) false = false
      rw [oa.2 _ (by omega)]; exact ua _ (by omega) (by omega)
    · show mb'.getD (bLo + s) false = false
      rw [ob.2 _ (by omega)]; exact ub _ (by omega) (by omega))
  rw [show x - aLo + (x2 - x + (aHi - x2)) = aHi - aLo by omega, show y - bLo + (y2 - y + (aHi - x2)) = bHi - bLo by omega] at w2
  exact w2

set_option maxRecDepth 100000 in
set_option maxHeartbeats 4000000 in
theorem compare_any (Bd CA CB F G Ba Bb la lb N : Nat) (ao bo : Option Addr) (f g : Nat → Int) (A : Apart Bd CA CB F G Ba Bb) (hla : la ≤ 1024) (hlb : lb ≤ 1024) (hN : la + lb < N) (hN2 : N ≤ 4000)
    (hao : 0 < la → ao = some ⟨Ba, 0, none⟩) (hbo : 0 < lb → bo = some ⟨Bb, 0, none⟩) :
    ∀ (s aLo aHi bLo bHi : Nat) (ma mb : List Bool) (fs gs : List Int) (w : World), aHi - aLo + (bHi - bLo) = s → aLo ≤ aHi → aHi ≤ la → bLo ≤ bHi → bHi ≤ lb →
      Live Bd CA CB F G Ba Bb la lb N ao bo f g w ma mb fs gs → (∀ i, aLo ≤ i → i < aHi → ma.getD i false = false) → (∀ i, bLo ≤ i → i < bHi → mb.getD i false = false) →
      Calls Try.prog 19 #[.pointer (some ⟨Bd, 0, none⟩), .int .i64 aLo, .int .i64 aHi, .int .i64 bLo, .int .i64 bHi] w fun e w' => e = .returned (.tuple #[]) ∧
        ∃ (ma' mb' : List Bool) (fs' gs' : List Int), Live Bd CA CB F G Ba Bb la lb N ao bo f g w' ma' mb' fs' gs' ∧ Same4 CA CB F G w w' ∧ Out ma ma' aLo aHi ∧ Out mb mb' bLo bHi ∧
          Marked f g (mk ma') (mk mb') aLo (aHi - aLo) bLo (bHi - bLo) := by
  intro s
  induction s using Nat.strongRecOn with
  | ind s ih =>
    intro aLo aHi bLo bHi ma mb fs gs w hs h1 h2 h3 h4 hL ua ub
    have IH : Hid (∀ s', s' < s → ∀ (aLo aHi bLo bHi : Nat) (ma mb : List Bool) (fs gs : List Int) (w : World), aHi - aLo + (bHi - bLo) = s' → aLo ≤ aHi → aHi ≤ la → bLo ≤ bHi → bHi ≤ lb →
      Live Bd CA CB F G Ba Bb la lb N ao bo f g w ma mb fs gs → (∀ i, aLo ≤ i → i < aHi → ma.getD i false = false) → (∀ i, bLo ≤ i → i < bHi → mb.getD i false = false) →
      Calls Try.prog 19 #[.pointer (some ⟨Bd, 0, none⟩), .int .i64 aLo, .int .i64 aHi, .int .i64 bLo, .int .i64 bHi] w fun e w' => e = .returned (.tuple #[]) ∧
        ∃ (ma' mb' : List Bool) (fs' gs' : List Int), Live Bd CA CB F G Ba Bb la lb N ao bo f g w' ma' mb' fs' gs' ∧ Same4 CA CB F G w w' ∧ Out ma ma' aLo aHi ∧ Out mb mb' bLo bHi ∧
          Marked f g (mk ma') (mk mb') aLo (aHi - aLo) bLo (bHi - bLo)) := ih
    have HL : Hid (Live Bd CA CB F G Ba Bb la lb N ao bo f g w ma mb fs gs) := hL
    have HUA : Hid (∀ i, aLo ≤ i → i < aHi → ma.getD i false = false) := ua
    have HUB : Hid (∀ i, bLo ≤ i → i < bHi → mb.getD i false = false) := ub
    have HA : Hid (Apart Bd CA CB F G Ba Bb) := A
    have HAO : Hid (0 < la → ao = some ⟨Ba, 0, none⟩) := hao
    have HBO : Hid (0 < lb → bo = some ⟨Bb, 0, none⟩) := hbo
    have HSZ : Hid (aHi - aLo + (bHi - bLo) = s) := hs
    clear ih hL ua ub A hao hbo hs
    go_enter Try.func19, Try.ntmps19
    go_wp2_with fail
    refine prefix_loop Bd Ba Bb la lb la lb aLo aHi bLo bHi ao bo f g w _ _ _ _ _ _ _ _ _ _ _ _ _ _ _ _ _ _ _ _ _ _ _ _ _ _ _ _ _ _ _ _ _ _ _ _ _ _ _ _ _ _ _ _ _ _ _ _ _ _ _ _ _ _ _ _ _ _ _ _ _ _ _ _ _ _ _ _ _ _ _ _ _ _ _ _ _ _ _ _ _ _ _ _ _ _ _ _ _ _ _ _ _ _ _ _ _ _ _ _ _ _ _ _ _ _ _ _ _ _ _ _ _ _ _ _ _ _ _ _ _ _ _ hla hlb h1 h2 h3 h4 HL.out.d0 HL.out.d1 HAO.out HBO.out HL.out.ca HL.out.cb ?_
    intro t14 t15 t16 t17 t18 t19 t20 t21 t22 t23 t24 t25 t26 t27 t28 t29 t30 t31 t32 t33 t34 t35 t36 t37 t38 t39 t40 t41 t42 x y w1 st1 p1 p2 p3 p4 p5 p6 p7
    have HL1 : Hid (Live Bd CA CB F G Ba Bb la lb N ao bo f g w1 ma mb fs gs) := HL.out.still st1
    have HS1 : Hid (Same4 CA CB F G w w1) := st1.same4
    have HP5 : Hid (x - aLo = y - bLo) := p5
    have HP6 : Hid (∀ s, s < x - aLo → f (aLo + s) = g (bLo + s)) := p6
    have HP7 : Hid (x < aHi → y < bHi → f x ≠ g y) := p7
    clear st1 p5 p6 p7 HL
    go_wp2_with fail
    refine suffix_loop Bd Ba Bb la lb la lb x aHi y bHi ao bo f g w1 _ _ _ _ _ _ _ _ _ _ _ _ _ _ _ _ _ _ _ _ _ _ _ _ _ _ _ _ _ _ _ _ _ _ _ _ _ _ _ _ _ _ _ _ _ _ _ _ _ _ _ _ _ _ _ _ _ _ _ _ _ _ _ _ _ _ _ _ _ _ _ _ _ _ _ _ _ _ _ _ _ _ _ _ _ _ _ _ _ _ _ _ _ _ _ _ _ _ _ _ _ _ _ _ _ _ _ _ _ _ _ _ _ _ _ _ _ _ _ _ _ _ _ hla hlb p2 h2 p4 h4 HL1.out.d0 HL1.out.d1 HAO.out HBO.out HL1.out.ca HL1.out.cb ?_
    intro t43 t44 t45 t46 t47 t48 t49 t50 t51 t52 t53 t54 t55 t56 t57 t58 t59 t60 t61 t62 t63 t64 t65 t66 t67 t68 t69 t70 t71 t72 t73 x2 y2 w2 st2 r1 r2 r3 r4 r5 r6 r7
    have HL2 : Hid (Live Bd CA CB F G Ba Bb la lb N ao bo f g w2 ma mb fs gs) := HL1.out.still st2
    have HS2 : Hid (Same4 CA CB F G w w2) := HS1.out.trans st2.same4
    have HR5 : Hid (aHi - x2 = bHi - y2) := r5
    have HR6 : Hid (∀ s, s < aHi - x2 → f (x2 + s) = g (y2 + s)) := r6
    have HR7 : Hid (x < x2 → y < y2 → f (x2 - 1) ≠ g (y2 - 1)) := r7
    clear st2 r5 r6 r7 HL1 HS1
    by_cases c1 : x = x2
    · subst c1
      go_wp2_with fail
      refine W.markB Bd CB lb y y2 mb w2 _ _ _ _ _ _ _ _ _ _ _ _ _ _ _ _ _ _ _ _ _ _ _ _ _ _ _ _ _ _ _ _ _ _ _ _ _ _ _ _ _ _ _ _ _ _ _ _ _ _ _ _ _ _ _ _ _ _ _ _ _ _ _ _ _ _ _ _ _ _ _ _ _ _ _ _ _ _ _ _ _ _ _ _ _ _ _ _ _ _ _ _ _ _ _ _ _ _ _ _ _ _ _ _ _ _ _ _ _ _ _ _ _ _ _ _ _ _ _ _ _ _ _ _ _ hlb r3 (by omega) HL2.out.lmb HA.out.d2 HL2.out.bmb HL2.out.d3 ?_
      intro t10 t100 t101 t102 t103 t104 t105 t106 t107 t108 t109 t110 mb' w3 k1 k2 k3 k4
      have HE : Hid (∃ (ma' mb' : List Bool) (fs' gs' : List Int), Live Bd CA CB F G Ba Bb la lb N ao bo f g w3 ma' mb' fs' gs' ∧ Same4 CA CB F G w w3 ∧ Out ma ma' aLo aHi ∧ Out mb mb' bLo bHi ∧
          Marked f g (mk ma') (mk mb') aLo (aHi - aLo) bLo (bHi - bLo)) := by
        refine ⟨ma, mb', fs, gs, HL2.out.markB HA.out k4 k1 (k2.1.trans HL2.out.lmb), HS2.out.trans k4.same4b, Out.refl _ _ _, k2.mono p3 r4, ?_⟩
        refine marked_all (x := x) (x2 := x) (y := y) (y2 := y2) ?_ p1 (Nat.le_refl _) p2 p3 r3 r4 HP5.out HR5.out HP6.out HR6.out HUA.out HUB.out (Out.refl _ _ _) k2
        rw [Nat.sub_self]
        exact Marked.ins (fun t t1 t2 => k3 t t1 (by omega))
      clear k1 k2 k3 k4 HL2 HS2
      go_wp2_with fail
      go_end0
      exact ⟨rfl, HE.out⟩
    · have d1 : ((x : Int) == (x2 : Int)) = false := by simpa using (fun h : (x : Int) = x2 => c1 (by omega))
      by_cases c2 : y = y2
      · subst c2
        go_wp2_with fail
        refine W.markA Bd CA la x x2 ma w2 _ _ _ _ _ _ _ _ _ _ _ _ _ _ _ _ _ _ _ _ _ _ _ _ _ _ _ _ _ _ _ _ _ _ _ _ _ _ _ _ _ _ _ _ _ _ _ _ _ _ _ _ _ _ _ _ _ _ _ _ _ _ _ _ _ _ _ _ _ _ _ _ _ _ _ _ _ _ _ _ _ _ _ _ _ _ _ _ _ _ _ _ _ _ _ _ _ _ _ _ _ _ _ _ _ _ _ _ _ _ _ _ _ _ _ _ _ _ _ _ _ _ _ _ _ hla r1 (by omega) HL2.out.lma HA.out.d1 HL2.out.bma HL2.out.d2 ?_
        intro t11 t116 t117 t118 t119 t120 t121 t122 t123 t124 t125 t126 ma' w3 k1 k2 k3 k4
        have HE : Hid (∃ (ma' mb' : List Bool) (fs' gs' : List Int), Live Bd CA CB F G Ba Bb la lb N ao bo f g w3 ma' mb' fs' gs' ∧ Same4 CA CB F G w w3 ∧ Out ma ma' aLo aHi ∧ Out mb mb' bLo bHi ∧
            Marked f g (mk ma') (mk mb') aLo (aHi - aLo) bLo (bHi - bLo)) := by
          refine ⟨ma', mb, fs, gs, HL2.out.markA HA.out k4 k1 (k2.1.trans HL2.out.lma), HS2.out.trans k4.same4a, k2.mono p1 r2, Out.refl _ _ _, ?_⟩
          refine marked_all (x := x) (x2 := x2) (y := y) (y2 := y) ?_ p1 r1 r2 p3 (Nat.le_refl _) p4 HP5.out HR5.out HP6.out HR6.out HUA.out HUB.out k2 (Out.refl _ _ _)
          rw [Nat.sub_self]
          exact Marked.del (fun t t1 t2 => k3 t t1 (by omega))
        clear k1 k2 k3 k4 HL2 HS2
        go_wp2_with fail
        go_end0
        exact ⟨rfl, HE.out⟩
      · have d2 : ((y : Int) == (y2 : Int)) = false := by simpa using (fun h : (y : Int) = y2 => c2 (by omega))
        obtain rfl := HAO.out (by omega)
        obtain rfl := HBO.out (by omega)
        have HSP : Hid (Calls Try.prog 21 #[.pointer (some ⟨Bd, 0, none⟩), .int .i64 x, .int .i64 x2, .int .i64 y, .int .i64 y2] w2 fun e w' =>
            ∃ (px py : Nat) (fs' gs' : List Int), e = .returned (.tuple #[.int .i64 px, .int .i64 py]) ∧ x ≤ px ∧ px ≤ x2 ∧ y ≤ py ∧ py ≤ y2 ∧
              0 < ((px - x : Nat) : Int) + (py - y : Nat) - 2 * lc f g x y (px - x) (py - y) ∧
              0 < ((x2 - px : Nat) : Int) + (y2 - py : Nat) - 2 * lc f g px py (x2 - px) (y2 - py) ∧
              (((px - x : Nat) : Int) + (py - y : Nat) - 2 * lc f g x y (px - x) (py - y)) + (((x2 - px : Nat) : Int) + (y2 - py : Nat) - 2 * lc f g px py (x2 - px) (y2 - py)) = ((x2 - x : Nat) : Int) + (y2 - y : Nat) - 2 * lc f g x y (x2 - x) (y2 - y) ∧
              Blk w' F fs' ∧ Blk w' G gs' ∧ fs'.length = N ∧ gs'.length = N ∧ Same2 F G w2 w') :=
          split_any Bd Ba Bb F G la lb la lb N x x2 y y2 f g fs gs w2 HL2.out.d0 HL2.out.d1 HL2.out.d4 HL2.out.d5 (by omega) (by omega) (Nat.le_refl _) (by omega) (by omega) (Nat.le_refl _) hla hlb hN hN2 HL2.out.ca HL2.out.cb
            HL2.out.fw HL2.out.bw HL2.out.lfs HL2.out.lgs HA.out.f1 HA.out.a3 HA.out.a4 HA.out.b3 HA.out.b4 (HP7.out (by omega) (by omega)) (HR7.out (by omega) (by omega))
        go_wp2_with fail
        refine HSP.out.mono ?_
        rintro e w3 ⟨px, py, fs3, gs3, rfl, q1, q2, q3, q4, q5, q6, q7, q8, q9, q10, q11, q12⟩
        have HL3 : Hid (Live Bd CA CB F G Ba Bb la lb N (some ⟨Ba, 0, none⟩) (some ⟨Bb, 0, none⟩) f g w3 ma mb fs3 gs3) := HL2.out.split HA.out q12 q8 q9 q10 q11
        have HS3 : Hid (Same4 CA CB F G w w3) := HS2.out.trans q12.same4
        have HQ5 : Hid (0 < ((px - x : Nat) : Int) + (py - y : Nat) - 2 * lc f g x y (px - x) (py - y)) := q5
        have HQ6 : Hid (0 < ((x2 - px : Nat) : Int) + (y2 - py : Nat) - 2 * lc f g px py (x2 - px) (y2 - py)) := q6
        have HQ7 : Hid ((((px - x : Nat) : Int) + (py - y : Nat) - 2 * lc f g x y (px - x) (py - y)) + (((x2 - px : Nat) : Int) + (y2 - py : Nat) - 2 * lc f g px py (x2 - px) (y2 - py)) = ((x2 - x : Nat) : Int) + (y2 - y : Nat) - 2 * lc f g x y (x2 - x) (y2 - y)) := q7
        clear q5 q6 q7 q8 q9 q10 q11 q12 HL2 HS2 HSP
        go_wp2_with fail
        refine (IH.out (px - x + (py - y)) (by have := HSZ.out; have := HQ6.out; omega) x px y py ma mb fs3 gs3 w3 rfl q1 (by omega) q3 (by omega) HL3.out (fun i i1 i2 => HUA.out i (by omega) (by omega)) (fun i i1 i2 => HUB.out i (by omega) (by omega))).mono ?_
        rintro e w4 ⟨rfl, ma4, mb4, fs4, gs4, L4, S4, OA4, OB4, M4⟩
        have HL4 : Hid (Live Bd CA CB F G Ba Bb la lb N (some ⟨Ba, 0, none⟩) (some ⟨Bb, 0, none⟩) f g w4 ma4 mb4 fs4 gs4) := L4
        have HS4 : Hid (Same4 CA CB F G w w4) := HS3.out.trans S4
        have HOA4 : Hid (Out ma ma4 x px) := OA4
        have HOB4 : Hid (Out mb mb4 y py) := OB4
        have HM4 : Hid (Marked f g (mk ma4) (mk mb4) x (px - x) y (py - y)) := M4
        clear L4 S4 OA4 OB4 M4 HL3 HS3
        go_wp2_with fail
        refine (IH.out (x2 - px + (y2 - py)) (by have := HSZ.out; have := HQ5.out; omega) px x2 py y2 ma4 mb4 fs4 gs4 w4 rfl q2 (by omega) q4 (by omega) HL4.out
          (fun i i1 i2 => by rw [HOA4.out.2 i (by omega)]; exact HUA.out i (by omega) (by omega)) (fun i i1 i2 => by rw [HOB4.out.2 i (by omega)]; exact HUB.out i (by omega) (by omega))).mono ?_
        rintro e w5 ⟨rfl, ma5, mb5, fs5, gs5, L5, S5, OA5, OB5, M5⟩
        have HE : Hid (∃ (ma' mb' : List Bool) (fs' gs' : List Int), Live Bd CA CB F G Ba Bb la lb N (some ⟨Ba, 0, none⟩) (some ⟨Bb, 0, none⟩) f g w5 ma' mb' fs' gs' ∧ Same4 CA CB F G w w5 ∧ Out ma ma' aLo aHi ∧ Out mb mb' bLo bHi ∧
            Marked f g (mk ma') (mk mb') aLo (aHi - aLo) bLo (bHi - bLo)) := by
          have oa : Out ma ma5 x x2 := (HOA4.out.mono (Nat.le_refl _) q2).trans (OA5.mono q1 (Nat.le_refl _))
          have ob : Out mb mb5 y y2 := (HOB4.out.mono (Nat.le_refl _) q4).trans (OB5.mono q3 (Nat.le_refl _))
          refine ⟨ma5, mb5, fs5, gs5, L5, HS4.out.trans S5, oa.mono p1 r2, ob.mono p3 r4, ?_⟩
          refine marked_all (x := x) (x2 := x2) (y := y) (y2 := y2) ?_ p1 r1 r2 p3 r3 r4 HP5.out HR5.out HP6.out HR6.out HUA.out HUB.out oa ob
          have m1 : Marked f g (mk ma5) (mk mb5) x (px - x) y (py - y) := HM4.out.congr (fun t t1 t2 => OA5.2 t (by omega)) (fun t t1 t2 => OB5.2 t (by omega))
          have m2 := m1.cat (n' := x2 - px) (m' := y2 - py) (by rw [show x + (px - x) = px by omega, show y + (py - y) = py by omega]; exact M5) (by
            rw [show x + (px - x) = px by omega, show y + (py - y) = py by omega, show px - x + (x2 - px) = x2 - x by omega, show py - y + (y2 - py) = y2 - y by omega]; exact HQ7.out)
          rw [show px - x + (x2 - px) = x2 - x by omega, show py - y + (y2 - py) = y2 - y by omega] at m2
          exact m2
        clear L5 S5 OA5 OB5 M5 HL4 HS4 HOA4 HOB4 HM4
        go_wp2_with fail
        go_end0
        exact ⟨rfl, HE.out⟩
end Go.Proofs.Qxb6602961a.W
