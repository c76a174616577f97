/- FnCompareMarksAShortestEdit, walked: the main way. -/
import Derived.Test.Qxb6602961aLawC
import Derived.Test.Qxb6602961aLawCL
import Derived.Test.Qxb6602961aZC
import Derived.Test.Qxb6602961aLcsW
import Derived.Deep.RegionWith
namespace Go.Proofs.Qxb6602961a.W
open Go.RowKit Myers
set_option linter.unusedVariables false

/-- the first n cells of a block -/
def Cells (w : World) (b n : Nat) (f : Nat → Int) : Prop := ∀ i, i < n → w.cell? ⟨b, i, none⟩ = some (.int .i64 (f i))
theorem Cells.below {w w' : World} {b n B : Nat} {f : Nat → Int} (h : Cells w b n f) (hb : Below B w w') (hB : w.heap.size ≤ B) : Cells w' b n f := fun i hi => by
  have hlt : b < w.heap.size := World.block_lt_of_cell? _ _ (h i hi)
  rw [hb.cell (by show b < B; omega)]; exact h i hi
theorem below_drewC {B : Nat} {W w' : World} (h : Below B W.drew w') : Below B W w' := ⟨h.os, h.tape, h.output, h.size, h.block⟩
theorem still_below {B : Nat} {w w' : World} (h : Still w w') : Below B w w' := ⟨h.2.1, h.2.2.1, h.2.2.2, by rw [h.1]; exact Nat.le_refl _, fun k _ => by rw [h.1]⟩

theorem sizeC (W : World) : Sem.run Try.prog (Go.sizeOf 3) W = .ok 1 W := by
  obtain ⟨i, hi, hz⟩ := Option.map_eq_some_iff.1 info3
  simp only [Prod.mk.injEq] at hz
  simp [Go.sizeOf, typeInfo, hi, hz.2.1]
/-- a part of a whole row of ints, which may be nil -/
theorem sub_anyC (ao : Option Addr) (P l h n : Nat) (hl : l ≤ h) (hh : h ≤ n) (hao : 0 < n → ao = some ⟨P, 0, none⟩) : ∃ ao' : Option Addr, (∀ W : World, Sem.run Try.prog (Instr.slice 22 (.slice ao n n) (some (.int .i64 (l : Int))) (some (.int .i64 (h : Int))) none) W = .ok (.slice ao' (h - l) (n - l)) W) ∧
    (l < h → ao' = some ⟨P, l, none⟩) := by
  refine ⟨if n = l then ao else ao.map (·.add (l * 1)), fun W => ?_, fun hlt => ?_⟩
  · have ht' : Try.prog.underlying 22 = some (.slice (Try.prog.elem 22)) := by simp [Program.elem, Try.underlying22]
    have he : Try.prog.elem 22 = 3 := by simp [Program.elem, Try.underlying22]
    rw [run_slice_lh W 22 _ _ _ ht' .i64 .i64 _ _ (by omega) (by omega) (by omega), he, sizeC]
    simp [Result.andThen, sliced]
  · rw [if_neg (by omega), hao (by omega)]
    by_cases h0 : l = 0
    · subst h0; simp [Addr.add]
    · simp [Addr.add, h0]
theorem Cells.sub {W : World} {P l h n : Nat} {f : Nat → Int} {ao : Option Addr} (hb : Cells W P n f) (hh : h ≤ n) (ha : l < h → ao = some ⟨P, l, none⟩) : Reads W ao (h - l) (fun i => f (l + i)) := by
  intro h0
  exact ⟨P, l, ha (by omega), fun i hi => hb (l + i) (by omega)⟩

set_option maxRecDepth 100000 in
set_option maxHeartbeats 4000000 in
theorem lawC_main (a0 b0 : Option Addr) (la lb ca cb : Nat) (f g : Nat → Int) (aLo aHi bLo bHi : Nat) (w : World) (m1 : la ≤ 1024) (m2 : lb ≤ 1024)
    (h1 : aLo ≤ aHi) (h2 : aHi ≤ la) (h3 : bLo ≤ bHi) (h4 : bHi ≤ lb)
    (CPA : ∀ W : World, Below w.heap.size w W → Calls Try.prog 8 #[.slice a0 la ca] W fun e w' => ∃ (ao : Option Addr) (Ba : Nat), e = .returned (.slice ao la la) ∧ (0 < la → ao = some ⟨Ba, 0, none⟩) ∧ Cells w' Ba la f ∧ Below W.heap.size W w')
    (CPB : ∀ W : World, Below w.heap.size w W → Calls Try.prog 8 #[.slice b0 lb cb] W fun e w' => ∃ (bo : Option Addr) (Bb : Nat), e = .returned (.slice bo lb lb) ∧ (0 < lb → bo = some ⟨Bb, 0, none⟩) ∧ Cells w' Bb lb g ∧ Below W.heap.size W w') :
    Calls Try.prog 3 #[.slice a0 la ca, .slice b0 lb cb, .int .i64 aLo, .int .i64 aHi, .int .i64 bLo, .int .i64 bHi] w fun e w' => e = .returned (.bool true) ∧ Below w.heap.size w w' := by
  have HCA : Hid (∀ W : World, Below w.heap.size w W → Calls Try.prog 8 #[.slice a0 la ca] W fun e w' => ∃ (ao : Option Addr) (Ba : Nat), e = .returned (.slice ao la la) ∧ (0 < la → ao = some ⟨Ba, 0, none⟩) ∧ Cells w' Ba la f ∧ Below W.heap.size W w') := CPA
  have HCB : Hid (∀ W : World, Below w.heap.size w W → Calls Try.prog 8 #[.slice b0 lb cb] W fun e w' => ∃ (bo : Option Addr) (Bb : Nat), e = .returned (.slice bo lb lb) ∧ (0 < lb → bo = some ⟨Bb, 0, none⟩) ∧ Cells w' Bb lb g ∧ Below W.heap.size W w') := CPB
  clear CPA CPB
  go_enter Try.func3, Try.ntmps3
  go_wp2_with (first | (go_at_call 7; go_in) | fail)
  refine (HCA.out w (Below.refl _ _)).mono ?_
  rintro e W1 ⟨ao, Ba, rfl, hao, hA1, hb1⟩
  have HAO : Hid (0 < la → ao = some ⟨Ba, 0, none⟩) := hao
  have HA1 : Hid (Cells W1 Ba la f) := hA1
  have HB1 : Hid (Below w.heap.size w W1) := hb1
  clear hao hA1 hb1 HCA
  go_wp2_with fail
  refine (HCB.out W1 HB1.out).mono ?_
  rintro e W2 ⟨bo, Bb, rfl, hbo, hB2, hb2⟩
  have HBO : Hid (0 < lb → bo = some ⟨Bb, 0, none⟩) := hbo
  have HA2 : Hid (Cells W2 Ba la f) := HA1.out.below hb2 (Nat.le_refl _)
  have HBB2 : Hid (Cells W2 Bb lb g) := hB2
  have HB2 : Hid (Below w.heap.size w W2) := HB1.out.trans (hb2.mono HB1.out.size)
  clear hbo hB2 hb2 HCB HA1 HB1
  have HZ : Hid (Calls Try.prog 9 #[.slice ao la la, .slice bo lb lb, .int .i64 aLo, .int .i64 aHi, .int .i64 bLo, .int .i64 bHi] W2 fun e w' =>
      ∃ (CA CB : Nat) (ma mb : List Bool), e = .returned (.tuple #[.slice (some ⟨CA, 0, none⟩) la la, .slice (some ⟨CB, 0, none⟩) lb lb]) ∧ BBlk w' CA ma ∧ BBlk w' CB mb ∧ ma.length = la ∧ mb.length = lb ∧
        Out (List.replicate la false) ma aLo aHi ∧ Out (List.replicate lb false) mb bLo bHi ∧ Marked f g (mk ma) (mk mb) aLo (aHi - aLo) bLo (bHi - bLo) ∧ Below W2.heap.size W2 w') :=
    zzcompare_any ao bo la lb Ba Bb aLo aHi bLo bHi f g W2 h1 h2 h3 h4 m1 m2 HAO.out HBO.out HA2.out HBB2.out
  go_wp2_with fail
  refine HZ.out.mono ?_
  rintro e W3 ⟨CA, CB, ma, mb, rfl, k1, k2, k3, k4, k5, k6, k7, k8⟩
  have HA3 : Hid (Cells W3 Ba la f) := HA2.out.below k8 (Nat.le_refl _)
  have HBB3 : Hid (Cells W3 Bb lb g) := HBB2.out.below k8 (Nat.le_refl _)
  have HB3 : Hid (Below w.heap.size w W3) := HB2.out.trans (k8.mono HB2.out.size)
  have HMA : Hid (BBlk W3 CA ma) := k1
  have HMB : Hid (BBlk W3 CB mb) := k2
  have HLA : Hid (ma.length = la) := k3
  have HLB : Hid (mb.length = lb) := k4
  have HIA : Hid (∀ i, i < la → ma.getD i false = true → aLo ≤ i ∧ i < aHi) := fun i hi ht => by
    by_cases hin : aLo ≤ i ∧ i < aHi
    · exact hin
    · exfalso
      rw [k5.2 i (by omega)] at ht
      simp [hi] at ht
  have HIB : Hid (∀ i, i < lb → mb.getD i false = true → bLo ≤ i ∧ i < bHi) := fun i hi ht => by
    by_cases hin : bLo ≤ i ∧ i < bHi
    · exact hin
    · exfalso
      rw [k6.2 i (by omega)] at ht
      simp [hi] at ht
  have HU : Hid (un f (mks ma) (aHi - aLo) aLo = un g (mks mb) (bHi - bLo) bLo) := k7.1
  have HD : Hid ((cnt (mks ma) (aHi - aLo) aLo : Int) + cnt (mks mb) (bHi - bLo) bLo = ((aHi - aLo : Nat) : Int) + (bHi - bLo : Nat) - 2 * lc f g aLo bLo (aHi - aLo) (bHi - bLo)) := k7.2
  clear k1 k2 k3 k4 k5 k6 k7 k8 HZ HA2 HBB2 HB2
  obtain ⟨D, hD⟩ : ∃ D : Int, D = ((aHi - aLo : Nat) : Int) + (bHi - bLo : Nat) - 2 * lc f g aLo bLo (aHi - aLo) (bHi - bLo) := ⟨_, rfl⟩
  have HDq : Hid (D = ((aHi - aLo : Nat) : Int) + (bHi - bLo : Nat) - 2 * lc f g aLo bLo (aHi - aLo) (bHi - bLo)) := hD
  rw [← hD] at HD
  clear hD
  go_wp2_with fail
  refine chkA CA la la aLo aHi ao ma W3 _ _ _ _ _ _ _ _ _ _ _ _ _ _ _ _ _ _ _ _ _ _ _ _ _ _ _ _ _ _ _ _ _ _ _ _ _ _ _ _ _ _ _ _ _ _ _ _ _ _ _ _ _ _ _ _ _ _ _ _ _ _ _ _ _ _ _ _ _ _ _ _ _ _ _ _ _ _ _ _ _ _ _ _ _ _ _ _ _ _ _ _ _ _ _ _ _ _ _ _ _ _ _ _ _ _ _ _ _ _ _ _ _ _ _ _ _ _ _ _ _ _ _ _ _ _ _ _ _ _ _ _ _ _ _ _ _ _ _ _ _ _ _ _ _ _ _ _ _ _ _ _ _ _ _ _ _ _ _ _ _ _ _ _ _ _ _ _ _ _ _ _ _ _ _ _ _ _ _ _ _ _ _ _ _ _ _ _ _ _ m1 HLA.out HMA.out HIA.out ?_
  intro t12 t15 t86 t87 t88 t89 t90 t91 t92 t93 t94 t95 t96 t97 t98 t99 t100 t101 t102 t103 t104 t105
  go_wp2_with fail
  refine chkB CB lb lb bLo bHi bo mb W3 _ _ _ _ _ _ _ _ _ _ _ _ _ _ _ _ _ _ _ _ _ _ _ _ _ _ _ _ _ _ _ _ _ _ _ _ _ _ _ _ _ _ _ _ _ _ _ _ _ _ _ _ _ _ _ _ _ _ _ _ _ _ _ _ _ _ _ _ _ _ _ _ _ _ _ _ _ _ _ _ _ _ _ _ _ _ _ _ _ _ _ _ _ _ _ _ _ _ _ _ _ _ _ _ _ _ _ _ _ _ _ _ _ _ _ _ _ _ _ _ _ _ _ _ _ _ _ _ _ _ _ _ _ _ _ _ _ _ _ _ _ _ _ _ _ _ _ _ _ _ _ _ _ _ _ _ _ _ _ _ _ _ _ _ _ _ _ _ _ _ _ _ _ _ _ _ _ _ _ _ _ _ _ _ _ _ _ _ _ _ m2 HLB.out HMB.out HIB.out ?_
  intro t12 t16 t106 t107 t108 t109 t110 t111 t112 t113 t114 t115 t116 t117 t118 t119 t120 t121 t122 t123 t124 t125
  go_wp2_with fail
  refine mrgL CA CB Ba Bb la lb la lb aLo aHi bLo bHi ao bo f g ma mb D W3 _ _ _ _ _ _ _ _ _ _ _ _ _ _ _ _ _ _ _ _ _ _ _ _ _ _ _ _ _ _ _ _ _ _ _ _ _ _ _ _ _ _ _ _ _ _ _ _ _ _ _ _ _ _ _ _ _ _ _ _ _ _ _ _ _ _ _ _ _ _ _ _ _ _ _ _ _ _ _ _ _ _ _ _ _ _ _ _ _ _ _ _ _ _ _ _ _ _ _ _ _ _ _ _ _ _ _ _ _ _ _ _ _ _ _ _ _ _ _ _ _ _ _ _ _ _ _ _ _ _ _ _ _ _ _ _ _ _ _ _ _ _ _ _ _ _ _ _ _ _ _ _ _ _ _ _ _ _ _ _ _ _ _ _ _ _ _ _ _ _ _ _ _ _ _ _ _ _ _ _ _ _ _ _ _ _ m1 m2 h1 h2 h3 h4 HLA.out HLB.out HMA.out HMB.out HAO.out HBO.out HA3.out HBB3.out HU.out HD.out ?_
  intro t12 t18 t19 t128 t129 t130 t131 t132 t133 t134 t135 t136 t137 t138 t139 t140 t141 t142 t143 t144 t145 t146 t147 t148 t149 t150 t151 t152 t153 t154 t155 t156 t157 t158 t159 t160 t161 t162 t163 t164 t165 t166 t167 t168 t169 t170 t171 t172 t173 t174 t175 t176 t177 t178 t179 t180 t181 t182 W4 st
  have HA4 : Hid (Cells W4 Ba la f) := HA3.out.below (still_below (B := W3.heap.size) st) (Nat.le_refl _)
  have HBB4 : Hid (Cells W4 Bb lb g) := HBB3.out.below (still_below (B := W3.heap.size) st) (Nat.le_refl _)
  have HB4 : Hid (Below w.heap.size w W4) := HB3.out.trans (still_below st)
  clear st HA3 HBB3 HB3 HMA HMB HLA HLB HIA HIB HU HD
  obtain ⟨ao', hao1, hao2⟩ := sub_anyC ao Ba aLo aHi la h1 h2 HAO.out
  obtain ⟨bo', hbo1, hbo2⟩ := sub_anyC bo Bb bLo bHi lb h3 h4 HBO.out
  have HDS : Hid (∀ W : World, Cells W Ba la f → Cells W Bb lb g → Calls Try.prog 10 #[.slice ao' (aHi - aLo) (la - aLo), .slice bo' (bHi - bLo) (lb - bLo)] W fun e w' => e = .returned (.int .i64 D) ∧ Below W.heap.size W w') :=
    fun W hA hB => by rw [HDq.out]; exact dist_any ao' bo' _ _ _ _ _ _ W (hA.sub h2 hao2) (hB.sub h4 hbo2) (by omega) (by omega)
  clear hao2 hbo2 HDq HAO HBO
  have hDD : (D == D) = true := by simp
  go_wp2_with fail
  go_region_with (go_at_call 10; refine (HDS.out _ (by exact HA4.out) (by exact HBB4.out)).mono ?_; rintro e w5 ⟨rfl, hb5⟩)
  have HB5 : Hid (Below W4.heap.size W4 w5) := below_drewC hb5
  clear hb5
  go_wp2
  go_ret
  exact ⟨by first | rfl | simp | simp [Act.put], HB4.out.trans (HB5.out.mono HB4.out.size)⟩
end Go.Proofs.Qxb6602961a.W
