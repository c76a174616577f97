/- FnSplitFindsAPointOnAShortestEdit, walked: the last lines agree; the main way. -/
import Derived.Test.Qxb6602961aLawS
import Derived.Test.Qxb6602961aZS
import Derived.Test.Qxb6602961aLcsW
import Derived.Deep.RegionWith
namespace Go.Proofs.Qxb6602961a.W
open Go.RowKit Myers
set_option linter.unusedVariables false

set_option maxRecDepth 100000 in
set_option maxHeartbeats 1000000 in
theorem lawS_eq2 (Ba Bb oa ob : Nat) (la ca lb cb : Nat) (aLo aHi bLo bHi : Nat) (z1 z2 z3 : Int) (w : World) (m1 : la ≤ 1024) (m2 : lb ≤ 1024)
    (h1 : aLo < aHi) (h2 : aHi ≤ la) (h3 : bLo < bHi) (h4 : bHi ≤ lb) (q1 : w.cell? ⟨Ba, oa + aLo, none⟩ = some (.int .i64 z1)) (q2 : w.cell? ⟨Bb, ob + bLo, none⟩ = some (.int .i64 z2))
    (q3 : w.cell? ⟨Ba, oa + (aHi - 1), none⟩ = some (.int .i64 z3)) (q4 : w.cell? ⟨Bb, ob + (bHi - 1), none⟩ = some (.int .i64 z3)) (hne : (z1 == z2) = false) :
    Calls Try.prog 4 #[.slice (some ⟨Ba, oa, none⟩) la ca, .slice (some ⟨Bb, ob, none⟩) lb cb, .int .i64 aLo, .int .i64 aHi, .int .i64 bLo, .int .i64 bHi] w fun e w' => e = .returned (.bool true) ∧ Below w.heap.size w w' := by
  have b1 : IntKind.i64.wrap ((aHi : Int) - 1) = (aHi : Int) - 1 := by rw [IntKind.wrap_i64]; omega
  have b2 : 0 ≤ (aHi : Int) - 1 := by omega
  have b3 : (aHi : Int) - 1 < la := by omega
  have b4 : ((aHi : Int) - 1).toNat = aHi - 1 := by omega
  have b5 : IntKind.i64.wrap ((bHi : Int) - 1) = (bHi : Int) - 1 := by rw [IntKind.wrap_i64]; omega
  have b6 : 0 ≤ (bHi : Int) - 1 := by omega
  have b7 : (bHi : Int) - 1 < lb := by omega
  have b8 : ((bHi : Int) - 1).toNat = bHi - 1 := by omega
  go_enter Try.func4, Try.ntmps4
  go_wp2
  go_quiet (fail)
  go_wp2
  go_ret
  exact ⟨rfl, Below.drewN' (Below.refl _ _) _⟩

/-- A region that draws its order, walked once, in the text's order, AMONG A SET OF WORLDS: each operation yields one value in every world of the set, a call leaves a world of the set. -/
theorem wp_region_class {P : Program} {I : Type} (F : I → World) {id : Nat} {Q : Exit → Act → World → Prop} {a : Act} {w : World} {l : List Oper} (hm : P.follows .mixedOrders = true) (hB : Region.lexB .any l.toArray = true)
    (hC : ∃ c, w.drew = F c) (h : wpQuiet P l.toArray (fun w' => ∃ c, w' = F c) (fun a' => ∀ w', (∃ c, w' = F c) → Q .normal a' w') l a) : (Code.region id l.toArray true).wp P Q a w :=
  wp_region_quiet (C := fun w' => ∃ c, w' = F c) hm hB hC (by simpa using h)
/-- the worlds in which the two copies lie and nothing that was there has turned -/
structure CW (w : World) (P0 P1 : Nat) (A B : List Int) where
  W : World
  a : Blk W P0 A
  b : Blk W P1 B
  bel : Below w.heap.size w W
theorem CW.call {w : World} {P0 P1 : Nat} {A B : List Int} (c : CW w P0 P1 A B) {f : FuncId} {args : Array Value} {v : Value}
    (h : Calls Try.prog f args c.W fun e w' => e = .returned v ∧ Below c.W.heap.size c.W w') : Calls Try.prog f args c.W fun e w' => e = .returned v ∧ ∃ c' : CW w P0 P1 A B, w' = c'.W :=
  h.mono fun e w' ⟨he, hb⟩ => ⟨he, ⟨w', c.a.below hb c.a.lt, c.b.below hb c.b.lt, c.bel.trans (hb.mono c.bel.size)⟩, rfl⟩
theorem below_drew {B : Nat} {W w' : World} (h : Below B W.drew w') : Below B W w' := ⟨h.os, h.tape, h.output, h.size, h.block⟩
theorem size3 (W : World) : Sem.run Try.prog (Go.sizeOf 3) W = .ok 1 W := by
  obtain ⟨i, hi, hz⟩ := Option.map_eq_some_iff.1 info3
  simp only [Prod.mk.injEq] at hz
  simp [Go.sizeOf, typeInfo, hi, hz.2.1]
/-- a part of a whole row of ints -/
theorem sub_any (P l h n : Nat) (hl : l ≤ h) (hh : h ≤ n) : ∃ ao : Option Addr, (∀ W : World, Sem.run Try.prog (Instr.slice 22 (.slice (some ⟨P, 0, none⟩) n n) (some (.int .i64 (l : Int))) (some (.int .i64 (h : Int))) none) W = .ok (.slice ao (h - l) (n - l)) W) ∧
    (l < h → ao = some ⟨P, l, none⟩) := by
  refine ⟨if n = l then some ⟨P, 0, none⟩ else (some ⟨P, 0, none⟩ : Option Addr).map (·.add (l * 1)), fun W => ?_, fun hlt => ?_⟩
  · have ht' : Try.prog.underlying 22 = some (.slice (Try.prog.elem 22)) := by simp [Program.elem, Try.underlying22]
    have he : Try.prog.elem 22 = 3 := by simp [Program.elem, Try.underlying22]
    rw [run_slice_lh W 22 _ _ _ ht' .i64 .i64 _ _ (by omega) (by omega) (by omega), he, size3]
    simp [Result.andThen, sliced]
  · rw [if_neg (by omega)]
    by_cases h0 : l = 0
    · subst h0; simp [Addr.add]
    · simp [Addr.add, h0]
theorem Blk.sub {W : World} {P l h n : Nat} {A : List Int} {ao : Option Addr} (hb : Blk W P A) (hn : n = A.length) (hh : h ≤ n) (ha : l < h → ao = some ⟨P, l, none⟩) : Reads W ao (h - l) (fun i => A.getD (l + i) 0) := by
  intro h0
  refine ⟨P, l, ha (by omega), fun i hi => hb.cell (l + i) (by omega)⟩

set_option maxRecDepth 100000 in
set_option maxHeartbeats 1000000 in
theorem lawS_main (Ba Bb oa ob : Nat) (A B : List Int) (ca cb : Nat) (aLo aHi bLo bHi : Nat) (z1 z2 z3 z4 : Int) (w : World) (m1 : A.length ≤ 1024) (m2 : B.length ≤ 1024)
    (h1 : aLo < aHi) (h2 : aHi ≤ A.length) (h3 : bLo < bHi) (h4 : bHi ≤ B.length) (q1 : w.cell? ⟨Ba, oa + aLo, none⟩ = some (.int .i64 z1)) (q2 : w.cell? ⟨Bb, ob + bLo, none⟩ = some (.int .i64 z2))
    (q3 : w.cell? ⟨Ba, oa + (aHi - 1), none⟩ = some (.int .i64 z3)) (q4 : w.cell? ⟨Bb, ob + (bHi - 1), none⟩ = some (.int .i64 z4)) (hne : (z1 == z2) = false) (hne2 : (z3 == z4) = false)
    (hz1 : z1 = A.getD aLo 0) (hz2 : z2 = B.getD bLo 0) (hz3 : z3 = A.getD (aHi - 1) 0) (hz4 : z4 = B.getD (bHi - 1) 0)
    (hra : Reads w (some ⟨Ba, oa, none⟩) A.length (fun i => A.getD i 0)) (hrb : Reads w (some ⟨Bb, ob, none⟩) B.length (fun i => B.getD i 0)) :
    Calls Try.prog 4 #[.slice (some ⟨Ba, oa, none⟩) A.length ca, .slice (some ⟨Bb, ob, none⟩) B.length cb, .int .i64 aLo, .int .i64 aHi, .int .i64 bLo, .int .i64 bHi] w fun e w' => e = .returned (.bool true) ∧ Below w.heap.size w w' := by
  obtain ⟨la, hla⟩ : ∃ la, la = A.length := ⟨_, rfl⟩
  obtain ⟨lb, hlb⟩ : ∃ lb, lb = B.length := ⟨_, rfl⟩
  have HA : Hid (la = A.length) := hla
  have HB : Hid (lb = B.length) := hlb
  have HRA : Hid (Reads w (some ⟨Ba, oa, none⟩) A.length (fun i => A.getD i 0)) := hra
  have HRB : Hid (Reads w (some ⟨Bb, ob, none⟩) B.length (fun i => B.getD i 0)) := hrb
  have HZ : Hid (z1 = A.getD aLo 0 ∧ z2 = B.getD bLo 0 ∧ z3 = A.getD (aHi - 1) 0 ∧ z4 = B.getD (bHi - 1) 0) := ⟨hz1, hz2, hz3, hz4⟩
  rw [← hla, ← hlb]
  rw [← hla] at m1 h2
  rw [← hlb] at m2 h4
  clear hla hlb hra hrb hz1 hz2 hz3 hz4
  have b1 : IntKind.i64.wrap ((aHi : Int) - 1) = (aHi : Int) - 1 := by rw [IntKind.wrap_i64]; omega
  have b2 : 0 ≤ (aHi : Int) - 1 := by omega
  have b3 : (aHi : Int) - 1 < la := by omega
  have b4 : ((aHi : Int) - 1).toNat = aHi - 1 := by omega
  have b5 : IntKind.i64.wrap ((bHi : Int) - 1) = (bHi : Int) - 1 := by rw [IntKind.wrap_i64]; omega
  have b6 : 0 ≤ (bHi : Int) - 1 := by omega
  have b7 : (bHi : Int) - 1 < lb := by omega
  have b8 : ((bHi : Int) - 1).toNat = bHi - 1 := by omega
  have HNE : Hid ((z1 == z2) = false ∧ (z3 == z4) = false) := ⟨hne, hne2⟩
  go_enter Try.func4, Try.ntmps4
  go_wp2
  go_quiet (fail)
  clear b1 b2 b3 b4 b5 b6 b7 b8 q1 q2 q3 q4 hne hne2
  obtain ⟨W0, hW0⟩ : ∃ W0 : World, W0 = w.drewN nq := ⟨_, rfl⟩
  rw [← hW0]
  have HB0 : Hid (Below w.heap.size w W0) := by rw [hW0]; exact Below.drewN' (Below.refl _ _) _
  have HZ0 : Hid (W0.heap.size = w.heap.size) := by rw [hW0]; rfl
  have HRA0 : Hid (Reads W0 (some ⟨Ba, oa, none⟩) A.length (fun i => A.getD i 0)) := HRA.out.below HB0.out (Nat.le_refl _)
  have HRB0 : Hid (Reads W0 (some ⟨Bb, ob, none⟩) B.length (fun i => B.getD i 0)) := HRB.out.below HB0.out (Nat.le_refl _)
  clear hW0 HRA HRB
  have HC : Hid (∀ (x : Addr) (cap n : Nat) (zs : List Int) (W : World), n = zs.length → n ≤ 1024 → Reads W (some x) zs.length (fun i => zs.getD i 0) → Calls Try.prog 8 #[.slice (some x) n cap] W fun e w' => e = .returned (.slice (some ⟨W.heap.size, 0, none⟩) n n) ∧ Blk w' W.heap.size zs ∧ Below W.heap.size W w' ∧ w'.heap.size = W.heap.size + 1) := by
    intro x cap n zs W hn hl hr
    subst hn
    exact copy_some x cap zs W hr (by omega)
  go_wp2_with fail
  refine (HC.out _ _ _ A _ HA.out m1 HRA0.out).mono ?_
  rintro e W1 ⟨rfl, hbA, hb1, hs1⟩
  have HBA1 : Hid (Blk W1 W0.heap.size A) := hbA
  have HB1 : Hid (Below W0.heap.size W0 W1) := hb1
  have HS1 : Hid (W1.heap.size = W0.heap.size + 1) := hs1
  have HRB1 : Hid (Reads W1 (some ⟨Bb, ob, none⟩) B.length (fun i => B.getD i 0)) := HRB0.out.below hb1 (Nat.le_refl _)
  clear hbA hb1 hs1 HRA0 HRB0
  go_wp2_with fail
  refine (HC.out _ _ _ B _ HB.out m2 HRB1.out).mono ?_
  rintro e W2 ⟨rfl, hbB, hb2, hs2⟩
  have HBA2 : Hid (Blk W2 W0.heap.size A) := HBA1.out.below hb2 (by have := HS1.out; omega)
  have HBB2 : Hid (Blk W2 W1.heap.size B) := hbB
  have HB2 : Hid (Below w.heap.size w W2) := HB0.out.trans ((HB1.out.trans (hb2.mono (by have := HS1.out; omega))).mono (by have := HZ0.out; omega))
  have HS2 : Hid (w.heap.size ≤ W2.heap.size) := by show w.heap.size ≤ W2.heap.size; have := HB2.out.size; exact this
  clear hbB hb2 hs2 HRB1 HBA1 HB1 HB0 HC
  have HSP : Hid (Calls Try.prog 12 #[.slice (some ⟨W0.heap.size, 0, none⟩) la la, .slice (some ⟨W1.heap.size, 0, none⟩) lb lb, .int .i64 aLo, .int .i64 aHi, .int .i64 bLo, .int .i64 bHi] W2 fun e w' =>
      ∃ (x y : Nat), e = .returned (.tuple #[.int .i64 x, .int .i64 y]) ∧ OnEdit (fun i => A.getD i 0) (fun i => B.getD i 0) aLo aHi bLo bHi x y ∧ Below W2.heap.size W2 w') := by
    obtain ⟨e1, e2, e3, e4⟩ := HZ.out
    obtain ⟨n1, n2⟩ := HNE.out
    refine zzsplit_any _ _ la lb la lb aLo aHi bLo bHi _ _ W2 h1 h2 (Nat.le_refl _) h3 h4 (Nat.le_refl _) m1 m2 (fun i hi => HBA2.out.cell i (by have := HA.out; omega)) (fun i hi => HBB2.out.cell i (by have := HB.out; omega)) ?_ ?_
    · rw [← e1, ← e2]; simpa using n1
    · rw [← e3, ← e4]; simpa using n2
  generalize W0.heap.size = P0 at *
  generalize W1.heap.size = P1 at *
  go_wp2_with fail
  refine HSP.out.mono ?_
  rintro e W3 ⟨x, y, rfl, hon, hb3⟩
  have HON : Hid (OnEdit (fun i => A.getD i 0) (fun i => B.getD i 0) aLo aHi bLo bHi x y) := hon
  have g1 := hon.1
  have g2 := hon.2.1
  have g3 := hon.2.2.1
  have g4 := hon.2.2.2.1
  have HBA3 : Hid (Blk W3 P0 A) := HBA2.out.below hb3 HBA2.out.lt
  have HBB3 : Hid (Blk W3 P1 B) := HBB2.out.below hb3 HBB2.out.lt
  have HB3 : Hid (Below w.heap.size w W3) := HB2.out.trans (hb3.mono HS2.out)
  clear hon hb3 HSP HBA2 HBB2 HB2 HZ HNE HS1 HZ0 HS2
  obtain ⟨ao1, hao1, hao1'⟩ := sub_any P0 aLo x la g1 (by omega)
  obtain ⟨bo1, hbo1, hbo1'⟩ := sub_any P1 bLo y lb g3 (by omega)
  have HD1 : Hid (∀ W : World, Blk W P0 A → Blk W P1 B → Calls Try.prog 10 #[.slice ao1 (x - aLo) (la - aLo), .slice bo1 (y - bLo) (lb - bLo)] W fun e w' => e = .returned (.int .i64 (((x - aLo : Nat) : Int) + (y - bLo : Nat) - 2 * (lc (fun i => A.getD i 0) (fun i => B.getD i 0) aLo bLo (x - aLo) (y - bLo) : Int))) ∧ Below W.heap.size W w') :=
    fun W hA hB => dist_any ao1 bo1 _ _ _ _ _ _ W (hA.sub HA.out (by omega) hao1') (hB.sub HB.out (by omega) hbo1') (by omega) (by omega)
  clear hao1' hbo1'
  go_wp2_with fail
  go_cut [15] from 17 (fun v wc => v = .int .i64 (((x - aLo : Nat) : Int) + (y - bLo : Nat) - 2 * (lc (fun i => A.getD i 0) (fun i => B.getD i 0) aLo bLo (x - aLo) (y - bLo) : Int)) ∧ Blk wc P0 A ∧ Blk wc P1 B ∧ Below w.heap.size w wc)
  case first =>
    go_region_with (go_at_call 10; refine (HD1.out _ (by exact HBA3.out) (by exact HBB3.out)).mono ?_; rintro e w4 ⟨rfl, hb4⟩)
    have HB4 : Hid (Below W3.heap.size W3 w4) := below_drew hb4
    clear hb4
    go_wp2
    go_meet
    case rel => exact ⟨rfl, HBA3.out.below HB4.out HBA3.out.lt, HBB3.out.below HB4.out HBB3.out.lt, HB3.out.trans (HB4.out.mono HB3.out.size)⟩
  case rest =>
    obtain ⟨rfl, hbA, hbB, hbel⟩ := hcut
    clear HBA3 HBB3 HB3 HD1 hao1 hbo1
    have HBA3 : Hid (Blk wc P0 A) := hbA
    have HBB3 : Hid (Blk wc P1 B) := hbB
    have HB3 : Hid (Below w.heap.size w wc) := hbel
    clear hbA hbB hbel
    obtain ⟨W3, rfl⟩ : ∃ W3 : World, W3 = wc := ⟨_, rfl⟩
    obtain ⟨d1, hd1⟩ : ∃ d1 : Int, d1 = ((x - aLo : Nat) : Int) + (y - bLo : Nat) - 2 * (lc (fun i => A.getD i 0) (fun i => B.getD i 0) aLo bLo (x - aLo) (y - bLo) : Int) := ⟨_, rfl⟩
    rw [← hd1]
    have HE1 : Hid (d1 = ((x - aLo : Nat) : Int) + (y - bLo : Nat) - 2 * (lc (fun i => A.getD i 0) (fun i => B.getD i 0) aLo bLo (x - aLo) (y - bLo) : Int)) := hd1
    have r1 : 0 < d1 ∧ d1 ≤ 2048 := by have := HON.out.2.2.2.2.1; omega
    clear hd1
    obtain ⟨ao2, hao2, hao2'⟩ := sub_any P0 x aHi la g2 (by omega)
    obtain ⟨bo2, hbo2, hbo2'⟩ := sub_any P1 y bHi lb g4 (by omega)
    have HD2 : Hid (∀ W : World, Blk W P0 A → Blk W P1 B → Calls Try.prog 10 #[.slice ao2 (aHi - x) (la - x), .slice bo2 (bHi - y) (lb - y)] W fun e w' => e = .returned (.int .i64 (((aHi - x : Nat) : Int) + (bHi - y : Nat) - 2 * (lc (fun i => A.getD i 0) (fun i => B.getD i 0) x y (aHi - x) (bHi - y) : Int))) ∧ Below W.heap.size W w') :=
      fun W hA hB => dist_any ao2 bo2 _ _ _ _ _ _ W (hA.sub HA.out (by omega) hao2') (hB.sub HB.out (by omega) hbo2') (by omega) (by omega)
    clear hao2' hbo2'
    go_wp2_with fail
    go_cut [16] from 17 (fun v wc => v = .int .i64 (((aHi - x : Nat) : Int) + (bHi - y : Nat) - 2 * (lc (fun i => A.getD i 0) (fun i => B.getD i 0) x y (aHi - x) (bHi - y) : Int)) ∧ Blk wc P0 A ∧ Blk wc P1 B ∧ Below w.heap.size w wc)
    case first =>
      go_region_with (go_at_call 10; refine (HD2.out _ (by exact HBA3.out) (by exact HBB3.out)).mono ?_; rintro e w4 ⟨rfl, hb4⟩)
      have HB4 : Hid (Below W3.heap.size W3 w4) := below_drew hb4
      clear hb4
      go_wp2
      go_meet
      case rel => exact ⟨rfl, HBA3.out.below HB4.out HBA3.out.lt, HBB3.out.below HB4.out HBB3.out.lt, HB3.out.trans (HB4.out.mono HB3.out.size)⟩
    case rest =>
      obtain ⟨rfl, hbA, hbB, hbel⟩ := hcut
      clear HBA3 HBB3 HB3 HD2 hao2 hbo2
      have HBA3 : Hid (Blk wc P0 A) := hbA
      have HBB3 : Hid (Blk wc P1 B) := hbB
      have HB3 : Hid (Below w.heap.size w wc) := hbel
      clear hbA hbB hbel
      obtain ⟨W4, rfl⟩ : ∃ W4 : World, W4 = wc := ⟨_, rfl⟩
      obtain ⟨d2, hd2⟩ : ∃ d2 : Int, d2 = ((aHi - x : Nat) : Int) + (bHi - y : Nat) - 2 * (lc (fun i => A.getD i 0) (fun i => B.getD i 0) x y (aHi - x) (bHi - y) : Int) := ⟨_, rfl⟩
      rw [← hd2]
      have r2 : 0 < d2 ∧ d2 ≤ 2048 := by have := HON.out.2.2.2.2.2.1; omega
      have HE : Hid (d1 + d2 = ((aHi - aLo : Nat) : Int) + (bHi - bLo : Nat) - 2 * (lc (fun i => A.getD i 0) (fun i => B.getD i 0) aLo bLo (aHi - aLo) (bHi - bLo) : Int)) := by
        have := HON.out.2.2.2.2.2.2
        rw [HE1.out, hd2]; exact this
      clear hd2 HE1 HON
      obtain ⟨r1, r1'⟩ := r1
      obtain ⟨r2, r2'⟩ := r2
      obtain ⟨ao3, hao3, hao3'⟩ := sub_any P0 aLo aHi la (by omega) (by omega)
      obtain ⟨bo3, hbo3, hbo3'⟩ := sub_any P1 bLo bHi lb (by omega) (by omega)
      have HD3 : Hid (∀ W : World, Blk W P0 A → Blk W P1 B → Calls Try.prog 10 #[.slice ao3 (aHi - aLo) (la - aLo), .slice bo3 (bHi - bLo) (lb - bLo)] W fun e w' => e = .returned (.int .i64 (d1 + d2)) ∧ Below W.heap.size W w') :=
        fun W hA hB => by rw [HE.out]; exact dist_any ao3 bo3 _ _ _ _ _ _ W (hA.sub HA.out (by omega) hao3') (hB.sub HB.out (by omega) hbo3') (by omega) (by omega)
      clear hao3' hbo3' HE
      have e1 : IntKind.i64.wrap (d1 + d2) = d1 + d2 := by rw [IntKind.wrap_i64]; omega
      go_wp2_with fail
      have hne : Nonempty (CW w P0 P1 A B) := ⟨⟨W4, HBA3.out, HBB3.out, HB3.out⟩⟩
      refine wp_region_class (CW.W (w := w) (P0 := P0) (P1 := P1) (A := A) (B := B)) (by kernel_rfl) (by kernel_rfl) ⟨⟨W4.drew, HBA3.out, HBB3.out, HB3.out.drew⟩, rfl⟩ ?_
      repeat (go_big_quiet_step (fail))
      go_big_quiet_want
      go_big_quiet_op
      refine ⟨.int .i64 (d1 + d2), fun c => CW.call c (HD3.out _ c.a c.b), ?_⟩
      go_big_quiet_on
      repeat (go_big_quiet_step (fail))
      refine wpQuiet_nil ?_
      rintro _ ⟨c, rfl⟩
      go_wp2
      go_ret
      exact ⟨by simp, c.bel⟩
end Go.Proofs.Qxb6602961a.W
