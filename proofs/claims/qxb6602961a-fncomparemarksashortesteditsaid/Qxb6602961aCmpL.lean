/- compare's four loops, walked. -/
import Derived.Test.Qxb6602961aCmpA
namespace Go.Proofs.Qxb6602961a.W
open Go.RowKit Myers
set_option linter.unusedVariables false

set_option maxRecDepth 100000 in
set_option maxHeartbeats 1000000 in
theorem prefix_loop (Bd Ba Bb la lb ca cb aLo aHi bLo bHi : Nat) (ao bo : Option Addr) (f g : Nat → Int) (w : World) (Q : Exit → Act → World → Prop)
    (s5 s6 s7 s8 s9 s10 s11 s12 s13 s14 s15 s16 s17 s18 s19 s20 s21 s22 s23 s24 s25 s26 s27 s28 s29 s30 s31 s32 s33 s34 s35 s36 s37 s38 s39 s40 s41 s42 s43 s44 s45 s46 s47 s48 s49 s50 s51 s52 s53 s54 s55 s56 s57 s58 s59 s60 s61 s62 s63 s64 s65 s66 s67 s68 s69 s70 s71 s72 s73 s74 s75 s76 s77 s78 s79 s80 s81 s82 s83 s84 s85 s86 s87 s88 s89 s90 s91 s92 s93 s94 s95 s96 s97 s98 s99 s100 s101 s102 s103 s104 s105 s106 s107 s108 s109 s110 s111 s112 s113 s114 s115 s116 s117 s118 s119 s120 s121 s122 s123 s124 s125 s126 : Value)
    (hla : la ≤ 1024) (hlb : lb ≤ 1024) (h1 : aLo ≤ aHi) (h2 : aHi ≤ la) (h3 : bLo ≤ bHi) (h4 : bHi ≤ lb)
    (d0 : w.cell? ⟨Bd, 0, none⟩ = some (.slice ao la ca)) (d1 : w.cell? ⟨Bd, 1, none⟩ = some (.slice bo lb cb)) (hao : 0 < la → ao = some ⟨Ba, 0, none⟩) (hbo : 0 < lb → bo = some ⟨Bb, 0, none⟩)
    (hca : ∀ i, i < la → w.cell? ⟨Ba, i, none⟩ = some (.int .i64 (f i))) (hcb : ∀ i, i < lb → w.cell? ⟨Bb, i, none⟩ = some (.int .i64 (g i)))
    (hexit : ∀ (t14 t15 t16 t17 t18 t19 t20 t21 t22 t23 t24 t25 t26 t27 t28 t29 t30 t31 t32 t33 t34 t35 t36 t37 t38 t39 t40 t41 t42 : Value) (x y : Nat) (w' : World), Still w w' → aLo ≤ x → x ≤ aHi → bLo ≤ y → y ≤ bHi → x - aLo = y - bLo → (∀ s, s < x - aLo → f (aLo + s) = g (bLo + s)) → (x < aHi → y < bHi → f x ≠ g y) → Q (.exit 0) ⟨List.toArray (.pointer (some ⟨Bd, 0, none⟩) :: .int .i64 x :: .int .i64 aHi :: .int .i64 y :: .int .i64 bHi :: s5 :: s6 :: s7 :: s8 :: s9 :: s10 :: s11 :: s12 :: s13 :: t14 :: t15 :: t16 :: t17 :: t18 :: t19 :: t20 :: t21 :: t22 :: t23 :: t24 :: t25 :: t26 :: t27 :: t28 :: t29 :: t30 :: t31 :: t32 :: t33 :: t34 :: t35 :: t36 :: t37 :: t38 :: t39 :: t40 :: t41 :: t42 :: s43 :: s44 :: s45 :: s46 :: s47 :: s48 :: s49 :: s50 :: s51 :: s52 :: s53 :: s54 :: s55 :: s56 :: s57 :: s58 :: s59 :: s60 :: s61 :: s62 :: s63 :: s64 :: s65 :: s66 :: s67 :: s68 :: s69 :: s70 :: s71 :: s72 :: s73 :: s74 :: s75 :: s76 :: s77 :: s78 :: s79 :: s80 :: s81 :: s82 :: s83 :: s84 :: s85 :: s86 :: s87 :: s88 :: s89 :: s90 :: s91 :: s92 :: s93 :: s94 :: s95 :: s96 :: s97 :: s98 :: s99 :: s100 :: s101 :: s102 :: s103 :: s104 :: s105 :: s106 :: s107 :: s108 :: s109 :: s110 :: s111 :: s112 :: s113 :: s114 :: s115 :: s116 :: s117 :: s118 :: s119 :: s120 :: s121 :: s122 :: s123 :: s124 :: s125 :: s126 :: []), []⟩ w') :
    Code.wp Try.prog (.loop (pick (Try.f19.body.getD .skip) 0)) Q ⟨List.toArray (.pointer (some ⟨Bd, 0, none⟩) :: .int .i64 aLo :: .int .i64 aHi :: .int .i64 bLo :: .int .i64 bHi :: s5 :: s6 :: s7 :: s8 :: s9 :: s10 :: s11 :: s12 :: s13 :: s14 :: s15 :: s16 :: s17 :: s18 :: s19 :: s20 :: s21 :: s22 :: s23 :: s24 :: s25 :: s26 :: s27 :: s28 :: s29 :: s30 :: s31 :: s32 :: s33 :: s34 :: s35 :: s36 :: s37 :: s38 :: s39 :: s40 :: s41 :: s42 :: s43 :: s44 :: s45 :: s46 :: s47 :: s48 :: s49 :: s50 :: s51 :: s52 :: s53 :: s54 :: s55 :: s56 :: s57 :: s58 :: s59 :: s60 :: s61 :: s62 :: s63 :: s64 :: s65 :: s66 :: s67 :: s68 :: s69 :: s70 :: s71 :: s72 :: s73 :: s74 :: s75 :: s76 :: s77 :: s78 :: s79 :: s80 :: s81 :: s82 :: s83 :: s84 :: s85 :: s86 :: s87 :: s88 :: s89 :: s90 :: s91 :: s92 :: s93 :: s94 :: s95 :: s96 :: s97 :: s98 :: s99 :: s100 :: s101 :: s102 :: s103 :: s104 :: s105 :: s106 :: s107 :: s108 :: s109 :: s110 :: s111 :: s112 :: s113 :: s114 :: s115 :: s116 :: s117 :: s118 :: s119 :: s120 :: s121 :: s122 :: s123 :: s124 :: s125 :: s126 :: []), []⟩ w := by
  conv => arg 2; arg 1; whnf
  have HCA : Hid (∀ i, i < la → w.cell? ⟨Ba, i, none⟩ = some (.int .i64 (f i))) := hca
  have HCB : Hid (∀ i, i < lb → w.cell? ⟨Bb, i, none⟩ = some (.int .i64 (g i))) := hcb
  have HX : Hid (∀ (t14 t15 t16 t17 t18 t19 t20 t21 t22 t23 t24 t25 t26 t27 t28 t29 t30 t31 t32 t33 t34 t35 t36 t37 t38 t39 t40 t41 t42 : Value) (x y : Nat) (w' : World), Still w w' → aLo ≤ x → x ≤ aHi → bLo ≤ y → y ≤ bHi → x - aLo = y - bLo → (∀ s, s < x - aLo → f (aLo + s) = g (bLo + s)) → (x < aHi → y < bHi → f x ≠ g y) → Q (.exit 0) ⟨List.toArray (.pointer (some ⟨Bd, 0, none⟩) :: .int .i64 x :: .int .i64 aHi :: .int .i64 y :: .int .i64 bHi :: s5 :: s6 :: s7 :: s8 :: s9 :: s10 :: s11 :: s12 :: s13 :: t14 :: t15 :: t16 :: t17 :: t18 :: t19 :: t20 :: t21 :: t22 :: t23 :: t24 :: t25 :: t26 :: t27 :: t28 :: t29 :: t30 :: t31 :: t32 :: t33 :: t34 :: t35 :: t36 :: t37 :: t38 :: t39 :: t40 :: t41 :: t42 :: s43 :: s44 :: s45 :: s46 :: s47 :: s48 :: s49 :: s50 :: s51 :: s52 :: s53 :: s54 :: s55 :: s56 :: s57 :: s58 :: s59 :: s60 :: s61 :: s62 :: s63 :: s64 :: s65 :: s66 :: s67 :: s68 :: s69 :: s70 :: s71 :: s72 :: s73 :: s74 :: s75 :: s76 :: s77 :: s78 :: s79 :: s80 :: s81 :: s82 :: s83 :: s84 :: s85 :: s86 :: s87 :: s88 :: s89 :: s90 :: s91 :: s92 :: s93 :: s94 :: s95 :: s96 :: s97 :: s98 :: s99 :: s100 :: s101 :: s102 :: s103 :: s104 :: s105 :: s106 :: s107 :: s108 :: s109 :: s110 :: s111 :: s112 :: s113 :: s114 :: s115 :: s116 :: s117 :: s118 :: s119 :: s120 :: s121 :: s122 :: s123 :: s124 :: s125 :: s126 :: []), []⟩ w') := hexit
  have HAO : Hid (0 < la → ao = some ⟨Ba, 0, none⟩) := hao
  have HBO : Hid (0 < lb → bo = some ⟨Bb, 0, none⟩) := hbo
  clear hca hcb hexit hao hbo
  go_loopw [1, 3] (fun xv yv wr => ∃ (x y : Nat), xv = .int .i64 x ∧ yv = .int .i64 y ∧ Still w wr ∧ aLo ≤ x ∧ x ≤ aHi ∧ bLo ≤ y ∧ y ≤ bHi ∧ x - aLo = y - bLo ∧ (∀ s, s < x - aLo → f (aLo + s) = g (bLo + s))) (fun xv _ _ => aHi - (intOf xv).toNat)
  case atStart => exact ⟨aLo, bLo, rfl, rfl, Still.refl _, by omega, by omega, by omega, by omega, by omega, fun s hs => by omega⟩
  case round =>
    obtain ⟨x, y, rfl, rfl, hst, g1, g2, g3, g4, g5, g6⟩ := hrel
    have HST : Hid (Still w wr) := hst
    have H5 : Hid (x - aLo = y - bLo) := g5
    have H6 : Hid (∀ s, s < x - aLo → f (aLo + s) = g (bLo + s)) := g6
    have e0 : wr.cell? ⟨Bd, 0, none⟩ = some (.slice ao la ca) := by rw [hst.cell]; exact d0
    have e1 : wr.cell? ⟨Bd, 1, none⟩ = some (.slice bo lb cb) := by rw [hst.cell]; exact d1
    clear hst g5 g6 d0 d1
    by_cases c1 : x < aHi
    · by_cases c2 : y < bHi
      · obtain rfl := HAO.out (by omega)
        obtain rfl := HBO.out (by omega)
        have q1 := HCA.out x (by omega)
        rw [← HST.out.cell] at q1
        have q2 := HCB.out y (by omega)
        rw [← HST.out.cell] at q2
        obtain ⟨z1, hz1⟩ : ∃ z, z = f x := ⟨_, rfl⟩
        obtain ⟨z2, hz2⟩ : ∃ z, z = g y := ⟨_, rfl⟩
        rw [← hz1] at q1
        rw [← hz2] at q2
        have HZ1 : Hid (z1 = f x) := hz1
        have HZ2 : Hid (z2 = g y) := hz2
        clear hz1 hz2 HCA HCB HAO HBO
        by_cases heq : z1 = z2
        · subst heq
          go_wp2
          go_quiet (fail)
          go_wp2
          go_roundw
          case rel =>
            have h5 := H5.out
            refine ⟨x + 1, y + 1, by go_num, by go_num, HST.out.drewN _, by omega, by omega, by omega, by omega, by omega, fun s hs => ?_⟩
            by_cases es : s < x - aLo
            · exact H6.out s es
            · rw [show aLo + s = x by omega, show bLo + s = y by omega, ← HZ1.out, ← HZ2.out]
          case measure => simp [intOf]; omega
        · have hd : (z1 == z2) = false := by simpa using heq
          go_wp2
          go_quiet (fail)
          go_wp2
          exact HX.out _ _ _ _ _ _ _ _ _ _ _ _ _ _ _ _ _ _ _ _ _ _ _ _ _ _ _ _ _ x y _ (HST.out.drewN _) g1 g2 g3 g4 H5.out H6.out (fun _ _ h => heq (by rw [HZ1.out, HZ2.out]; exact h))
      · have hd2 : decide (y < bHi) = false := by simpa using c2
        go_wp2
        go_quiet (fail)
        go_wp2
        exact HX.out _ _ _ _ _ _ _ _ _ _ _ _ _ _ _ _ _ _ _ _ _ _ _ _ _ _ _ _ _ x y _ (HST.out.drewN _) g1 g2 g3 g4 H5.out H6.out (fun _ h _ => by omega)
    · have hd2 : decide (x < aHi) = false := by simpa using c1
      go_wp2
      go_quiet (fail)
      go_wp2
      exact HX.out _ _ _ _ _ _ _ _ _ _ _ _ _ _ _ _ _ _ _ _ _ _ _ _ _ _ _ _ _ x y _ (HST.out.drewN _) g1 g2 g3 g4 H5.out H6.out (fun h _ _ => by omega)

set_option maxRecDepth 100000 in
set_option maxHeartbeats 1000000 in
theorem suffix_loop (Bd Ba Bb la lb ca cb aLo aHi bLo bHi : Nat) (ao bo : Option Addr) (f g : Nat → Int) (w : World) (Q : Exit → Act → World → Prop)
    (s5 s6 s7 s8 s9 s10 s11 s12 s13 s14 s15 s16 s17 s18 s19 s20 s21 s22 s23 s24 s25 s26 s27 s28 s29 s30 s31 s32 s33 s34 s35 s36 s37 s38 s39 s40 s41 s42 s43 s44 s45 s46 s47 s48 s49 s50 s51 s52 s53 s54 s55 s56 s57 s58 s59 s60 s61 s62 s63 s64 s65 s66 s67 s68 s69 s70 s71 s72 s73 s74 s75 s76 s77 s78 s79 s80 s81 s82 s83 s84 s85 s86 s87 s88 s89 s90 s91 s92 s93 s94 s95 s96 s97 s98 s99 s100 s101 s102 s103 s104 s105 s106 s107 s108 s109 s110 s111 s112 s113 s114 s115 s116 s117 s118 s119 s120 s121 s122 s123 s124 s125 s126 : Value)
    (hla : la ≤ 1024) (hlb : lb ≤ 1024) (h1 : aLo ≤ aHi) (h2 : aHi ≤ la) (h3 : bLo ≤ bHi) (h4 : bHi ≤ lb)
    (d0 : w.cell? ⟨Bd, 0, none⟩ = some (.slice ao la ca)) (d1 : w.cell? ⟨Bd, 1, none⟩ = some (.slice bo lb cb)) (hao : 0 < la → ao = some ⟨Ba, 0, none⟩) (hbo : 0 < lb → bo = some ⟨Bb, 0, none⟩)
    (hca : ∀ i, i < la → w.cell? ⟨Ba, i, none⟩ = some (.int .i64 (f i))) (hcb : ∀ i, i < lb → w.cell? ⟨Bb, i, none⟩ = some (.int .i64 (g i)))
    (hexit : ∀ (t43 t44 t45 t46 t47 t48 t49 t50 t51 t52 t53 t54 t55 t56 t57 t58 t59 t60 t61 t62 t63 t64 t65 t66 t67 t68 t69 t70 t71 t72 t73 : Value) (x y : Nat) (w' : World), Still w w' → aLo ≤ x → x ≤ aHi → bLo ≤ y → y ≤ bHi → aHi - x = bHi - y → (∀ s, s < aHi - x → f (x + s) = g (y + s)) → (aLo < x → bLo < y → f (x - 1) ≠ g (y - 1)) → Q (.exit 2) ⟨List.toArray (.pointer (some ⟨Bd, 0, none⟩) :: .int .i64 aLo :: .int .i64 x :: .int .i64 bLo :: .int .i64 y :: s5 :: s6 :: s7 :: s8 :: s9 :: s10 :: s11 :: s12 :: s13 :: s14 :: s15 :: s16 :: s17 :: s18 :: s19 :: s20 :: s21 :: s22 :: s23 :: s24 :: s25 :: s26 :: s27 :: s28 :: s29 :: s30 :: s31 :: s32 :: s33 :: s34 :: s35 :: s36 :: s37 :: s38 :: s39 :: s40 :: s41 :: s42 :: t43 :: t44 :: t45 :: t46 :: t47 :: t48 :: t49 :: t50 :: t51 :: t52 :: t53 :: t54 :: t55 :: t56 :: t57 :: t58 :: t59 :: t60 :: t61 :: t62 :: t63 :: t64 :: t65 :: t66 :: t67 :: t68 :: t69 :: t70 :: t71 :: t72 :: t73 :: s74 :: s75 :: s76 :: s77 :: s78 :: s79 :: s80 :: s81 :: s82 :: s83 :: s84 :: s85 :: s86 :: s87 :: s88 :: s89 :: s90 :: s91 :: s92 :: s93 :: s94 :: s95 :: s96 :: s97 :: s98 :: s99 :: s100 :: s101 :: s102 :: s103 :: s104 :: s105 :: s106 :: s107 :: s108 :: s109 :: s110 :: s111 :: s112 :: s113 :: s114 :: s115 :: s116 :: s117 :: s118 :: s119 :: s120 :: s121 :: s122 :: s123 :: s124 :: s125 :: s126 :: []), []⟩ w') :
    Code.wp Try.prog (.loop (pick (Try.f19.body.getD .skip) 1)) Q ⟨List.toArray (.pointer (some ⟨Bd, 0, none⟩) :: .int .i64 aLo :: .int .i64 aHi :: .int .i64 bLo :: .int .i64 bHi :: s5 :: s6 :: s7 :: s8 :: s9 :: s10 :: s11 :: s12 :: s13 :: s14 :: s15 :: s16 :: s17 :: s18 :: s19 :: s20 :: s21 :: s22 :: s23 :: s24 :: s25 :: s26 :: s27 :: s28 :: s29 :: s30 :: s31 :: s32 :: s33 :: s34 :: s35 :: s36 :: s37 :: s38 :: s39 :: s40 :: s41 :: s42 :: s43 :: s44 :: s45 :: s46 :: s47 :: s48 :: s49 :: s50 :: s51 :: s52 :: s53 :: s54 :: s55 :: s56 :: s57 :: s58 :: s59 :: s60 :: s61 :: s62 :: s63 :: s64 :: s65 :: s66 :: s67 :: s68 :: s69 :: s70 :: s71 :: s72 :: s73 :: s74 :: s75 :: s76 :: s77 :: s78 :: s79 :: s80 :: s81 :: s82 :: s83 :: s84 :: s85 :: s86 :: s87 :: s88 :: s89 :: s90 :: s91 :: s92 :: s93 :: s94 :: s95 :: s96 :: s97 :: s98 :: s99 :: s100 :: s101 :: s102 :: s103 :: s104 :: s105 :: s106 :: s107 :: s108 :: s109 :: s110 :: s111 :: s112 :: s113 :: s114 :: s115 :: s116 :: s117 :: s118 :: s119 :: s120 :: s121 :: s122 :: s123 :: s124 :: s125 :: s126 :: []), []⟩ w := by
  conv => arg 2; arg 1; whnf
  have HCA : Hid (∀ i, i < la → w.cell? ⟨Ba, i, none⟩ = some (.int .i64 (f i))) := hca
  have HCB : Hid (∀ i, i < lb → w.cell? ⟨Bb, i, none⟩ = some (.int .i64 (g i))) := hcb
  have HX : Hid (∀ (t43 t44 t45 t46 t47 t48 t49 t50 t51 t52 t53 t54 t55 t56 t57 t58 t59 t60 t61 t62 t63 t64 t65 t66 t67 t68 t69 t70 t71 t72 t73 : Value) (x y : Nat) (w' : World), Still w w' → aLo ≤ x → x ≤ aHi → bLo ≤ y → y ≤ bHi → aHi - x = bHi - y → (∀ s, s < aHi - x → f (x + s) = g (y + s)) → (aLo < x → bLo < y → f (x - 1) ≠ g (y - 1)) → Q (.exit 2) ⟨List.toArray (.pointer (some ⟨Bd, 0, none⟩) :: .int .i64 aLo :: .int .i64 x :: .int .i64 bLo :: .int .i64 y :: s5 :: s6 :: s7 :: s8 :: s9 :: s10 :: s11 :: s12 :: s13 :: s14 :: s15 :: s16 :: s17 :: s18 :: s19 :: s20 :: s21 :: s22 :: s23 :: s24 :: s25 :: s26 :: s27 :: s28 :: s29 :: s30 :: s31 :: s32 :: s33 :: s34 :: s35 :: s36 :: s37 :: s38 :: s39 :: s40 :: s41 :: s42 :: t43 :: t44 :: t45 :: t46 :: t47 :: t48 :: t49 :: t50 :: t51 :: t52 :: t53 :: t54 :: t55 :: t56 :: t57 :: t58 :: t59 :: t60 :: t61 :: t62 :: t63 :: t64 :: t65 :: t66 :: t67 :: t68 :: t69 :: t70 :: t71 :: t72 :: t73 :: s74 :: s75 :: s76 :: s77 :: s78 :: s79 :: s80 :: s81 :: s82 :: s83 :: s84 :: s85 :: s86 :: s87 :: s88 :: s89 :: s90 :: s91 :: s92 :: s93 :: s94 :: s95 :: s96 :: s97 :: s98 :: s99 :: s100 :: s101 :: s102 :: s103 :: s104 :: s105 :: s106 :: s107 :: s108 :: s109 :: s110 :: s111 :: s112 :: s113 :: s114 :: s115 :: s116 :: s117 :: s118 :: s119 :: s120 :: s121 :: s122 :: s123 :: s124 :: s125 :: s126 :: []), []⟩ w') := hexit
  have HAO : Hid (0 < la → ao = some ⟨Ba, 0, none⟩) := hao
  have HBO : Hid (0 < lb → bo = some ⟨Bb, 0, none⟩) := hbo
  clear hca hcb hexit hao hbo
  go_loopw [2, 4] (fun xv yv wr => ∃ (x y : Nat), xv = .int .i64 x ∧ yv = .int .i64 y ∧ Still w wr ∧ aLo ≤ x ∧ x ≤ aHi ∧ bLo ≤ y ∧ y ≤ bHi ∧ aHi - x = bHi - y ∧ (∀ s, s < aHi - x → f (x + s) = g (y + s))) (fun xv _ _ => (intOf xv).toNat)
  case atStart => exact ⟨aHi, bHi, rfl, rfl, Still.refl _, by omega, by omega, by omega, by omega, by omega, fun s hs => by omega⟩
  case round =>
    obtain ⟨x, y, rfl, rfl, hst, g1, g2, g3, g4, g5, g6⟩ := hrel
    have HST : Hid (Still w wr) := hst
    have H5 : Hid (aHi - x = bHi - y) := g5
    have H6 : Hid (∀ s, s < aHi - x → f (x + s) = g (y + s)) := g6
    have e0 : wr.cell? ⟨Bd, 0, none⟩ = some (.slice ao la ca) := by rw [hst.cell]; exact d0
    have e1 : wr.cell? ⟨Bd, 1, none⟩ = some (.slice bo lb cb) := by rw [hst.cell]; exact d1
    clear hst g5 g6 d0 d1
    by_cases c1 : aLo < x
    · by_cases c2 : bLo < y
      · obtain rfl := HAO.out (by omega)
        obtain rfl := HBO.out (by omega)
        have q1 := HCA.out (x - 1) (by omega)
        rw [← HST.out.cell] at q1
        have q2 := HCB.out (y - 1) (by omega)
        rw [← HST.out.cell] at q2
        obtain ⟨z1, hz1⟩ : ∃ z, z = f (x - 1) := ⟨_, rfl⟩
        obtain ⟨z2, hz2⟩ : ∃ z, z = g (y - 1) := ⟨_, rfl⟩
        rw [← hz1] at q1
        rw [← hz2] at q2
        have HZ1 : Hid (z1 = f (x - 1)) := hz1
        have HZ2 : Hid (z2 = g (y - 1)) := hz2
        have b1 : IntKind.i64.wrap ((x : Int) - 1) = (x : Int) - 1 := by rw [IntKind.wrap_i64]; omega
        have b2 : 0 ≤ (x : Int) - 1 := by omega
        have b3 : (x : Int) - 1 < la := by omega
        have b4 : ((x : Int) - 1).toNat = x - 1 := by omega
        have b5 : IntKind.i64.wrap ((y : Int) - 1) = (y : Int) - 1 := by rw [IntKind.wrap_i64]; omega
        have b6 : 0 ≤ (y : Int) - 1 := by omega
        have b7 : (y : Int) - 1 < lb := by omega
        have b8 : ((y : Int) - 1).toNat = y - 1 := by omega
        clear hz1 hz2 HCA HCB HAO HBO
        by_cases heq : z1 = z2
        · subst heq
          go_wp2
          go_quiet (fail)
          go_wp2
          go_roundw
          case rel =>
            have h5 := H5.out
            refine ⟨x - 1, y - 1, by rw [show ((x - 1 : Nat) : Int) = (x : Int) - 1 by omega], by rw [show ((y - 1 : Nat) : Int) = (y : Int) - 1 by omega], HST.out.drewN _, by omega, by omega, by omega, by omega, by omega, fun s hs => ?_⟩
            by_cases es : s = 0
            · subst es
              rw [Nat.add_zero, Nat.add_zero, ← HZ1.out, ← HZ2.out]
            · have := H6.out (s - 1) (by omega)
              rw [show x + (s - 1) = x - 1 + s by omega, show y + (s - 1) = y - 1 + s by omega] at this
              exact this
          case measure => simp [intOf]; omega
        · have hd : (z1 == z2) = false := by simpa using heq
          go_wp2
          go_quiet (fail)
          go_wp2
          exact HX.out _ _ _ _ _ _ _ _ _ _ _ _ _ _ _ _ _ _ _ _ _ _ _ _ _ _ _ _ _ _ _ x y _ (HST.out.drewN _) g1 g2 g3 g4 H5.out H6.out (fun _ _ h => heq (by rw [HZ1.out, HZ2.out]; exact h))
      · have hd2 : decide (bLo < y) = false := by simpa using c2
        go_wp2
        go_quiet (fail)
        go_wp2
        exact HX.out _ _ _ _ _ _ _ _ _ _ _ _ _ _ _ _ _ _ _ _ _ _ _ _ _ _ _ _ _ _ _ x y _ (HST.out.drewN _) g1 g2 g3 g4 H5.out H6.out (fun _ h _ => by omega)
    · have hd2 : decide (aLo < x) = false := by simpa using c1
      go_wp2
      go_quiet (fail)
      go_wp2
      exact HX.out _ _ _ _ _ _ _ _ _ _ _ _ _ _ _ _ _ _ _ _ _ _ _ _ _ _ _ _ _ _ _ x y _ (HST.out.drewN _) g1 g2 g3 g4 H5.out H6.out (fun h _ _ => by omega)

set_option maxRecDepth 100000 in
set_option maxHeartbeats 1000000 in
theorem markB (Bd C n lo hi : Nat) (bs : List Bool) (w : World) (Q : Exit → Act → World → Prop)
    (s1 s2 s3 s5 s6 s7 s8 s9 s11 s12 s13 s14 s15 s16 s17 s18 s19 s20 s21 s22 s23 s24 s25 s26 s27 s28 s29 s30 s31 s32 s33 s34 s35 s36 s37 s38 s39 s40 s41 s42 s43 s44 s45 s46 s47 s48 s49 s50 s51 s52 s53 s54 s55 s56 s57 s58 s59 s60 s61 s62 s63 s64 s65 s66 s67 s68 s69 s70 s71 s72 s73 s74 s75 s76 s77 s78 s79 s80 s81 s82 s83 s84 s85 s86 s87 s88 s89 s90 s91 s92 s93 s94 s95 s96 s97 s98 s99 s100 s101 s102 s103 s104 s105 s106 s107 s108 s109 s110 s111 s112 s113 s114 s115 s116 s117 s118 s119 s120 s121 s122 s123 s124 s125 s126 : Value)
    (hn : n ≤ 1024) (h1 : lo ≤ hi) (h2 : hi ≤ n) (hl : bs.length = n) (hBC : Bd ≠ C) (hb : BBlk w C bs)
    (d : w.cell? ⟨Bd, 3, none⟩ = some (.slice (some ⟨C, 0, none⟩) n n))
    (hexit : ∀ (t10 t100 t101 t102 t103 t104 t105 t106 t107 t108 t109 t110 : Value) (bs' : List Bool) (w' : World), BBlk w' C bs' → Out bs bs' lo hi → (∀ t, lo ≤ t → t < hi → bs'.getD t false = true) → Same1 C w w' → Q (.exit 5) ⟨List.toArray (.pointer (some ⟨Bd, 0, none⟩) :: s1 :: s2 :: s3 :: .int .i64 hi :: s5 :: s6 :: s7 :: s8 :: s9 :: t10 :: s11 :: s12 :: s13 :: s14 :: s15 :: s16 :: s17 :: s18 :: s19 :: s20 :: s21 :: s22 :: s23 :: s24 :: s25 :: s26 :: s27 :: s28 :: s29 :: s30 :: s31 :: s32 :: s33 :: s34 :: s35 :: s36 :: s37 :: s38 :: s39 :: s40 :: s41 :: s42 :: s43 :: s44 :: s45 :: s46 :: s47 :: s48 :: s49 :: s50 :: s51 :: s52 :: s53 :: s54 :: s55 :: s56 :: s57 :: s58 :: s59 :: s60 :: s61 :: s62 :: s63 :: s64 :: s65 :: s66 :: s67 :: s68 :: s69 :: s70 :: s71 :: s72 :: s73 :: s74 :: s75 :: s76 :: s77 :: s78 :: s79 :: s80 :: s81 :: s82 :: s83 :: s84 :: s85 :: s86 :: s87 :: s88 :: s89 :: s90 :: s91 :: s92 :: s93 :: s94 :: s95 :: s96 :: s97 :: s98 :: s99 :: t100 :: t101 :: t102 :: t103 :: t104 :: t105 :: t106 :: t107 :: t108 :: t109 :: t110 :: s111 :: s112 :: s113 :: s114 :: s115 :: s116 :: s117 :: s118 :: s119 :: s120 :: s121 :: s122 :: s123 :: s124 :: s125 :: s126 :: []), []⟩ w') :
    Code.wp Try.prog (.loop (pick (Try.f19.body.getD .skip) 2)) Q ⟨List.toArray (.pointer (some ⟨Bd, 0, none⟩) :: s1 :: s2 :: s3 :: .int .i64 hi :: s5 :: s6 :: s7 :: s8 :: s9 :: .int .i64 lo :: s11 :: s12 :: s13 :: s14 :: s15 :: s16 :: s17 :: s18 :: s19 :: s20 :: s21 :: s22 :: s23 :: s24 :: s25 :: s26 :: s27 :: s28 :: s29 :: s30 :: s31 :: s32 :: s33 :: s34 :: s35 :: s36 :: s37 :: s38 :: s39 :: s40 :: s41 :: s42 :: s43 :: s44 :: s45 :: s46 :: s47 :: s48 :: s49 :: s50 :: s51 :: s52 :: s53 :: s54 :: s55 :: s56 :: s57 :: s58 :: s59 :: s60 :: s61 :: s62 :: s63 :: s64 :: s65 :: s66 :: s67 :: s68 :: s69 :: s70 :: s71 :: s72 :: s73 :: s74 :: s75 :: s76 :: s77 :: s78 :: s79 :: s80 :: s81 :: s82 :: s83 :: s84 :: s85 :: s86 :: s87 :: s88 :: s89 :: s90 :: s91 :: s92 :: s93 :: s94 :: s95 :: s96 :: s97 :: s98 :: s99 :: s100 :: s101 :: s102 :: s103 :: s104 :: s105 :: s106 :: s107 :: s108 :: s109 :: s110 :: s111 :: s112 :: s113 :: s114 :: s115 :: s116 :: s117 :: s118 :: s119 :: s120 :: s121 :: s122 :: s123 :: s124 :: s125 :: s126 :: []), []⟩ w := by
  conv => arg 2; arg 1; whnf
  have HX : Hid (∀ (t10 t100 t101 t102 t103 t104 t105 t106 t107 t108 t109 t110 : Value) (bs' : List Bool) (w' : World), BBlk w' C bs' → Out bs bs' lo hi → (∀ t, lo ≤ t → t < hi → bs'.getD t false = true) → Same1 C w w' → Q (.exit 5) ⟨List.toArray (.pointer (some ⟨Bd, 0, none⟩) :: s1 :: s2 :: s3 :: .int .i64 hi :: s5 :: s6 :: s7 :: s8 :: s9 :: t10 :: s11 :: s12 :: s13 :: s14 :: s15 :: s16 :: s17 :: s18 :: s19 :: s20 :: s21 :: s22 :: s23 :: s24 :: s25 :: s26 :: s27 :: s28 :: s29 :: s30 :: s31 :: s32 :: s33 :: s34 :: s35 :: s36 :: s37 :: s38 :: s39 :: s40 :: s41 :: s42 :: s43 :: s44 :: s45 :: s46 :: s47 :: s48 :: s49 :: s50 :: s51 :: s52 :: s53 :: s54 :: s55 :: s56 :: s57 :: s58 :: s59 :: s60 :: s61 :: s62 :: s63 :: s64 :: s65 :: s66 :: s67 :: s68 :: s69 :: s70 :: s71 :: s72 :: s73 :: s74 :: s75 :: s76 :: s77 :: s78 :: s79 :: s80 :: s81 :: s82 :: s83 :: s84 :: s85 :: s86 :: s87 :: s88 :: s89 :: s90 :: s91 :: s92 :: s93 :: s94 :: s95 :: s96 :: s97 :: s98 :: s99 :: t100 :: t101 :: t102 :: t103 :: t104 :: t105 :: t106 :: t107 :: t108 :: t109 :: t110 :: s111 :: s112 :: s113 :: s114 :: s115 :: s116 :: s117 :: s118 :: s119 :: s120 :: s121 :: s122 :: s123 :: s124 :: s125 :: s126 :: []), []⟩ w') := hexit
  have HL : Hid (bs.length = n) := hl
  have HD : Hid (w.cell? ⟨Bd, 3, none⟩ = some (.slice (some ⟨C, 0, none⟩) n n)) := d
  have HB : Hid (BBlk w C bs) := hb
  have HBC : Hid (Bd ≠ C) := hBC
  clear hexit hl d hb hBC
  go_loopw [10] (fun jv wr => ∃ (j : Nat) (bs' : List Bool), jv = .int .i64 j ∧ lo ≤ j ∧ j ≤ hi ∧ BBlk wr C bs' ∧ Out bs bs' lo hi ∧ (∀ t, lo ≤ t → t < j → bs'.getD t false = true) ∧ Same1 C w wr) (fun jv _ => hi - (intOf jv).toNat)
  case atStart => exact ⟨lo, bs, rfl, by omega, by omega, HB.out, Out.refl _ _ _, fun t h1 h2 => by omega, Same1.refl _ _⟩
  case round =>
    obtain ⟨j, bs', rfl, g1, g2, hb', ho, ht, hs⟩ := hrel
    have HB' : Hid (BBlk wr C bs') := hb'
    have HO : Hid (Out bs bs' lo hi) := ho
    have HT : Hid (∀ t, lo ≤ t → t < j → bs'.getD t false = true) := ht
    have HS : Hid (Same1 C w wr) := hs
    clear hb' ho ht hs
    by_cases c : j < hi
    · have hlen : j < bs'.length := by have := HO.out.1; have := HL.out; omega
      have e0 : wr.cell? ⟨Bd, 3, none⟩ = some (.slice (some ⟨C, 0, none⟩) n n) := by rw [HS.out.cell HBC.out]; exact HD.out
      have e1 := HB'.out.cell j hlen
      have e2 := HB'.out.free j
      clear hlen
      go_wp2
      go_roundw
      case rel =>
        have hlen : j < bs'.length := by have := HO.out.1; have := HL.out; omega
        refine ⟨j + 1, bs'.set j true, by go_num, by omega, by omega, HB'.out.set j true, HO.out.trans (Out.set _ _ _ _ g1 c _), fun t h1 h2 => ?_, HS.out.setCell rfl _⟩
        by_cases e : j = t
        · subst e; exact get_set_same _ _ hlen _
        · rw [get_set_other _ _ _ e]; exact HT.out t h1 (by omega)
      case measure => simp [intOf]; omega
    · obtain rfl : j = hi := by omega
      go_wp2
      exact HX.out _ _ _ _ _ _ _ _ _ _ _ _ bs' _ HB'.out HO.out HT.out HS.out

set_option maxRecDepth 100000 in
set_option maxHeartbeats 1000000 in
theorem markA (Bd C n lo hi : Nat) (bs : List Bool) (w : World) (Q : Exit → Act → World → Prop)
    (s1 s3 s4 s5 s6 s7 s8 s9 s10 s12 s13 s14 s15 s16 s17 s18 s19 s20 s21 s22 s23 s24 s25 s26 s27 s28 s29 s30 s31 s32 s33 s34 s35 s36 s37 s38 s39 s40 s41 s42 s43 s44 s45 s46 s47 s48 s49 s50 s51 s52 s53 s54 s55 s56 s57 s58 s59 s60 s61 s62 s63 s64 s65 s66 s67 s68 s69 s70 s71 s72 s73 s74 s75 s76 s77 s78 s79 s80 s81 s82 s83 s84 s85 s86 s87 s88 s89 s90 s91 s92 s93 s94 s95 s96 s97 s98 s99 s100 s101 s102 s103 s104 s105 s106 s107 s108 s109 s110 s111 s112 s113 s114 s115 s116 s117 s118 s119 s120 s121 s122 s123 s124 s125 s126 : Value)
    (hn : n ≤ 1024) (h1 : lo ≤ hi) (h2 : hi ≤ n) (hl : bs.length = n) (hBC : Bd ≠ C) (hb : BBlk w C bs)
    (d : w.cell? ⟨Bd, 2, none⟩ = some (.slice (some ⟨C, 0, none⟩) n n))
    (hexit : ∀ (t11 t116 t117 t118 t119 t120 t121 t122 t123 t124 t125 t126 : Value) (bs' : List Bool) (w' : World), BBlk w' C bs' → Out bs bs' lo hi → (∀ t, lo ≤ t → t < hi → bs'.getD t false = true) → Same1 C w w' → Q (.exit 7) ⟨List.toArray (.pointer (some ⟨Bd, 0, none⟩) :: s1 :: .int .i64 hi :: s3 :: s4 :: s5 :: s6 :: s7 :: s8 :: s9 :: s10 :: t11 :: s12 :: s13 :: s14 :: s15 :: s16 :: s17 :: s18 :: s19 :: s20 :: s21 :: s22 :: s23 :: s24 :: s25 :: s26 :: s27 :: s28 :: s29 :: s30 :: s31 :: s32 :: s33 :: s34 :: s35 :: s36 :: s37 :: s38 :: s39 :: s40 :: s41 :: s42 :: s43 :: s44 :: s45 :: s46 :: s47 :: s48 :: s49 :: s50 :: s51 :: s52 :: s53 :: s54 :: s55 :: s56 :: s57 :: s58 :: s59 :: s60 :: s61 :: s62 :: s63 :: s64 :: s65 :: s66 :: s67 :: s68 :: s69 :: s70 :: s71 :: s72 :: s73 :: s74 :: s75 :: s76 :: s77 :: s78 :: s79 :: s80 :: s81 :: s82 :: s83 :: s84 :: s85 :: s86 :: s87 :: s88 :: s89 :: s90 :: s91 :: s92 :: s93 :: s94 :: s95 :: s96 :: s97 :: s98 :: s99 :: s100 :: s101 :: s102 :: s103 :: s104 :: s105 :: s106 :: s107 :: s108 :: s109 :: s110 :: s111 :: s112 :: s113 :: s114 :: s115 :: t116 :: t117 :: t118 :: t119 :: t120 :: t121 :: t122 :: t123 :: t124 :: t125 :: t126 :: []), []⟩ w') :
    Code.wp Try.prog (.loop (pick (Try.f19.body.getD .skip) 3)) Q ⟨List.toArray (.pointer (some ⟨Bd, 0, none⟩) :: s1 :: .int .i64 hi :: s3 :: s4 :: s5 :: s6 :: s7 :: s8 :: s9 :: s10 :: .int .i64 lo :: s12 :: s13 :: s14 :: s15 :: s16 :: s17 :: s18 :: s19 :: s20 :: s21 :: s22 :: s23 :: s24 :: s25 :: s26 :: s27 :: s28 :: s29 :: s30 :: s31 :: s32 :: s33 :: s34 :: s35 :: s36 :: s37 :: s38 :: s39 :: s40 :: s41 :: s42 :: s43 :: s44 :: s45 :: s46 :: s47 :: s48 :: s49 :: s50 :: s51 :: s52 :: s53 :: s54 :: s55 :: s56 :: s57 :: s58 :: s59 :: s60 :: s61 :: s62 :: s63 :: s64 :: s65 :: s66 :: s67 :: s68 :: s69 :: s70 :: s71 :: s72 :: s73 :: s74 :: s75 :: s76 :: s77 :: s78 :: s79 :: s80 :: s81 :: s82 :: s83 :: s84 :: s85 :: s86 :: s87 :: s88 :: s89 :: s90 :: s91 :: s92 :: s93 :: s94 :: s95 :: s96 :: s97 :: s98 :: s99 :: s100 :: s101 :: s102 :: s103 :: s104 :: s105 :: s106 :: s107 :: s108 :: s109 :: s110 :: s111 :: s112 :: s113 :: s114 :: s115 :: s116 :: s117 :: s118 :: s119 :: s120 :: s121 :: s122 :: s123 :: s124 :: s125 :: s126 :: []), []⟩ w := by
  conv => arg 2; arg 1; whnf
  have HX : Hid (∀ (t11 t116 t117 t118 t119 t120 t121 t122 t123 t124 t125 t126 : Value) (bs' : List Bool) (w' : World), BBlk w' C bs' → Out bs bs' lo hi → (∀ t, lo ≤ t → t < hi → bs'.getD t false = true) → Same1 C w w' → Q (.exit 7) ⟨List.toArray (.pointer (some ⟨Bd, 0, none⟩) :: s1 :: .int .i64 hi :: s3 :: s4 :: s5 :: s6 :: s7 :: s8 :: s9 :: s10 :: t11 :: s12 :: s13 :: s14 :: s15 :: s16 :: s17 :: s18 :: s19 :: s20 :: s21 :: s22 :: s23 :: s24 :: s25 :: s26 :: s27 :: s28 :: s29 :: s30 :: s31 :: s32 :: s33 :: s34 :: s35 :: s36 :: s37 :: s38 :: s39 :: s40 :: s41 :: s42 :: s43 :: s44 :: s45 :: s46 :: s47 :: s48 :: s49 :: s50 :: s51 :: s52 :: s53 :: s54 :: s55 :: s56 :: s57 :: s58 :: s59 :: s60 :: s61 :: s62 :: s63 :: s64 :: s65 :: s66 :: s67 :: s68 :: s69 :: s70 :: s71 :: s72 :: s73 :: s74 :: s75 :: s76 :: s77 :: s78 :: s79 :: s80 :: s81 :: s82 :: s83 :: s84 :: s85 :: s86 :: s87 :: s88 :: s89 :: s90 :: s91 :: s92 :: s93 :: s94 :: s95 :: s96 :: s97 :: s98 :: s99 :: s100 :: s101 :: s102 :: s103 :: s104 :: s105 :: s106 :: s107 :: s108 :: s109 :: s110 :: s111 :: s112 :: s113 :: s114 :: s115 :: t116 :: t117 :: t118 :: t119 :: t120 :: t121 :: t122 :: t123 :: t124 :: t125 :: t126 :: []), []⟩ w') := hexit
  have HL : Hid (bs.length = n) := hl
  have HD : Hid (w.cell? ⟨Bd, 2, none⟩ = some (.slice (some ⟨C, 0, none⟩) n n)) := d
  have HB : Hid (BBlk w C bs) := hb
  have HBC : Hid (Bd ≠ C) := hBC
  clear hexit hl d hb hBC
  go_loopw [11] (fun jv wr => ∃ (j : Nat) (bs' : List Bool), jv = .int .i64 j ∧ lo ≤ j ∧ j ≤ hi ∧ BBlk wr C bs' ∧ Out bs bs' lo hi ∧ (∀ t, lo ≤ t → t < j → bs'.getD t false = true) ∧ Same1 C w wr) (fun jv _ => hi - (intOf jv).toNat)
  case atStart => exact ⟨lo, bs, rfl, by omega, by omega, HB.out, Out.refl _ _ _, fun t h1 h2 => by omega, Same1.refl _ _⟩
  case round =>
    obtain ⟨j, bs', rfl, g1, g2, hb', ho, ht, hs⟩ := hrel
    have HB' : Hid (BBlk wr C bs') := hb'
    have HO : Hid (Out bs bs' lo hi) := ho
    have HT : Hid (∀ t, lo ≤ t → t < j → bs'.getD t false = true) := ht
    have HS : Hid (Same1 C w wr) := hs
    clear hb' ho ht hs
    by_cases c : j < hi
    · have hlen : j < bs'.length := by have := HO.out.1; have := HL.out; omega
      have e0 : wr.cell? ⟨Bd, 2, none⟩ = some (.slice (some ⟨C, 0, none⟩) n n) := by rw [HS.out.cell HBC.out]; exact HD.out
      have e1 := HB'.out.cell j hlen
      have e2 := HB'.out.free j
      clear hlen
      go_wp2
      go_roundw
      case rel =>
        have hlen : j < bs'.length := by have := HO.out.1; have := HL.out; omega
        refine ⟨j + 1, bs'.set j true, by go_num, by omega, by omega, HB'.out.set j true, HO.out.trans (Out.set _ _ _ _ g1 c _), fun t h1 h2 => ?_, HS.out.setCell rfl _⟩
        by_cases e : j = t
        · subst e; exact get_set_same _ _ hlen _
        · rw [get_set_other _ _ _ e]; exact HT.out t h1 (by omega)
      case measure => simp [intOf]; omega
    · obtain rfl : j = hi := by omega
      go_wp2
      exact HX.out _ _ _ _ _ _ _ _ _ _ _ _ bs' _ HB'.out HO.out HT.out HS.out

end Go.Proofs.Qxb6602961a.W
