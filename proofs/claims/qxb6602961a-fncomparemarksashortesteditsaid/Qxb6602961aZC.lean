/- ZZCompare, walked. -/
import Derived.Test.Qxb6602961aCmp
import Derived.BigRegion
import Derived.Deep.CutRange
namespace Go.Proofs.Qxb6602961a.W
open Go.RowKit Myers
set_option linter.unusedVariables false

theorem info4 : (Try.prog.info? 4).map (fun i => (i.zero, i.size, i.bytes)) = some (some (.bool false), 1, 1) := by kernel_rfl

/-- a differ has just been made, in whatever order its rows were -/
def Fresh (w W : World) (ao bo : Option Addr) (la lb Bd CA CB F G : Nat) : Prop :=
  W.heap[Bd]? = some (.cells #[.slice ao la la, .slice bo lb lb, .slice (some ⟨CA, 0, none⟩) la la, .slice (some ⟨CB, 0, none⟩) lb lb, .slice (some ⟨F, 0, none⟩) (la + lb + 1) (la + lb + 1), .slice (some ⟨G, 0, none⟩) (la + lb + 1) (la + lb + 1)] 42) ∧
  W.heap[CA]? = some (.cells (madeCells #[Value.bool false] la) 4) ∧ W.heap[CB]? = some (.cells (madeCells #[Value.bool false] lb) 4) ∧
  W.heap[F]? = some (.cells (madeCells #[Value.int .i64 0] (la + lb + 1)) 3) ∧ W.heap[G]? = some (.cells (madeCells #[Value.int .i64 0] (la + lb + 1)) 3) ∧
  Below w.heap.size w W ∧
  (w.heap.size ≤ CA ∧ w.heap.size ≤ CB ∧ w.heap.size ≤ F ∧ w.heap.size ≤ G ∧ w.heap.size ≤ Bd ∧ Bd ≠ CA ∧ Bd ≠ CB ∧ Bd ≠ F ∧ Bd ≠ G ∧ CA ≠ CB ∧ CA ≠ F ∧ CA ≠ G ∧ CB ≠ F ∧ CB ≠ G ∧ F ≠ G ∧ CA < W.heap.size ∧ Bd < W.heap.size)

section
variable (w : World) (o0 o1 o2 o3 o4 : Obj)
theorem fr_bel : Below w.heap.size w (((((w.alloc o0).alloc o1).alloc o2).alloc o3).alloc o4).drew :=
  ((((((Below.refl _ _).alloc (Nat.le_refl _) _).alloc (by simp only [World.size_alloc]; omega) _).alloc (by simp only [World.size_alloc]; omega) _).alloc (by simp only [World.size_alloc]; omega) _).alloc (by simp only [World.size_alloc]; omega) _).drew
theorem fr_size : (((((w.alloc o0).alloc o1).alloc o2).alloc o3).alloc o4).drew.heap.size = w.heap.size + 5 := by
  rw [World.size_drew]; simp only [World.size_alloc]
theorem fr0 : (((((w.alloc o0).alloc o1).alloc o2).alloc o3).alloc o4).drew.heap[w.heap.size]? = some o0 := by
  show (((((w.heap.push o0).push o1).push o2).push o3).push o4)[w.heap.size]? = _
  simp only [Array.getElem?_push, Array.size_push]
  rw [if_neg (by omega), if_neg (by omega), if_neg (by omega), if_neg (by omega), if_pos trivial]
theorem fr1 : (((((w.alloc o0).alloc o1).alloc o2).alloc o3).alloc o4).drew.heap[w.heap.size + 1]? = some o1 := by
  show (((((w.heap.push o0).push o1).push o2).push o3).push o4)[w.heap.size + 1]? = _
  simp only [Array.getElem?_push, Array.size_push]
  rw [if_neg (by omega), if_neg (by omega), if_neg (by omega), if_pos trivial]
theorem fr2 : (((((w.alloc o0).alloc o1).alloc o2).alloc o3).alloc o4).drew.heap[w.heap.size + 1 + 1]? = some o2 := by
  show (((((w.heap.push o0).push o1).push o2).push o3).push o4)[w.heap.size + 1 + 1]? = _
  simp only [Array.getElem?_push, Array.size_push]
  rw [if_neg (by omega), if_neg (by omega), if_pos trivial]
theorem fr3 : (((((w.alloc o0).alloc o1).alloc o2).alloc o3).alloc o4).drew.heap[w.heap.size + 1 + 1 + 1]? = some o3 := by
  show (((((w.heap.push o0).push o1).push o2).push o3).push o4)[w.heap.size + 1 + 1 + 1]? = _
  simp only [Array.getElem?_push, Array.size_push]
  rw [if_neg (by omega), if_pos trivial]
theorem fr4 : (((((w.alloc o0).alloc o1).alloc o2).alloc o3).alloc o4).drew.heap[w.heap.size + 1 + 1 + 1 + 1]? = some o4 := by
  show (((((w.heap.push o0).push o1).push o2).push o3).push o4)[w.heap.size + 1 + 1 + 1 + 1]? = _
  simp only [Array.getElem?_push, Array.size_push]
  rw [if_pos trivial]
end

theorem made_int (n : Nat) : madeCells #[Value.int .i64 0] n = ((List.replicate n 0).map (Value.int .i64)).toArray := by
  apply Array.ext'
  simp only [madeCells, Array.toList_map, Array.toList_range, List.map_replicate, List.size_toArray, List.length_cons, List.length_nil, Nat.zero_add, Nat.mod_one]
  rw [List.eq_replicate_iff]
  simp
theorem made_bool (n : Nat) : madeCells #[Value.bool false] n = ((List.replicate n false).map Value.bool).toArray := by
  apply Array.ext'
  simp only [madeCells, Array.toList_map, Array.toList_range, List.map_replicate, List.size_toArray, List.length_cons, List.length_nil, Nat.zero_add, Nat.mod_one]
  rw [List.eq_replicate_iff]
  simp
theorem cell_block {W : World} {b i : Nat} {c : Array Value} {t : TypeId} {fr : Nat × Nat} {v : Value} (h : W.heap[b]? = some (.cells c t fr)) (hv : c[i]? = some v) : W.cell? ⟨b, i, none⟩ = some v := by
  simp [World.cell?, h, hv]

theorem Fresh.live {w W : World} {ao bo : Option Addr} {la lb Bd CA CB F G Ba Bb : Nat} {f g : Nat → Int} (h : Fresh w W ao bo la lb Bd CA CB F G)
    (hca : ∀ i, i < la → w.cell? ⟨Ba, i, none⟩ = some (.int .i64 (f i))) (hcb : ∀ i, i < lb → w.cell? ⟨Bb, i, none⟩ = some (.int .i64 (g i))) :
    Live Bd CA CB F G Ba Bb la lb (la + lb + 1) ao bo f g W (List.replicate la false) (List.replicate lb false) (List.replicate (la + lb + 1) 0) (List.replicate (la + lb + 1) 0) := by
  obtain ⟨h0, h1, h2, h3, h4, h5, h6⟩ := h
  exact ⟨cell_block h0 rfl, cell_block h0 rfl, cell_block h0 rfl, cell_block h0 rfl, cell_block h0 rfl, cell_block h0 rfl,
    fun i hi => by rw [h5.cell (World.block_lt_of_cell? _ _ (hca i hi))]; exact hca i hi, fun i hi => by rw [h5.cell (World.block_lt_of_cell? _ _ (hcb i hi))]; exact hcb i hi,
    by unfold BBlk; rw [h1, made_bool], by unfold BBlk; rw [h2, made_bool], by unfold Blk; rw [h3, made_int], by unfold Blk; rw [h4, made_int], by simp, by simp, by simp, by simp⟩

theorem Same4.below {CA CB F G B : Nat} {w w' : World} (h : Same4 CA CB F G w w') (h1 : B ≤ CA) (h2 : B ≤ CB) (h3 : B ≤ F) (h4 : B ≤ G) : Below B w w' :=
  ⟨h.os, h.tape, h.output, by rw [h.size]; exact Nat.le_refl _, fun k hk => h.block k (by omega) (by omega) (by omega) (by omega)⟩

set_option maxRecDepth 100000 in
set_option maxHeartbeats 8000000 in
theorem zzcompare_any (ao bo : Option Addr) (la lb Ba Bb : Nat) (aLo aHi bLo bHi : Nat) (f g : Nat → Int) (w : World) (h1 : aLo ≤ aHi) (h2 : aHi ≤ la) (h3 : bLo ≤ bHi) (h4 : bHi ≤ lb) (h7 : la ≤ 1024) (h8 : lb ≤ 1024)
    (hao : 0 < la → ao = some ⟨Ba, 0, none⟩) (hbo : 0 < lb → bo = some ⟨Bb, 0, none⟩)
    (hca : ∀ i, i < la → w.cell? ⟨Ba, i, none⟩ = some (.int .i64 (f i))) (hcb : ∀ i, i < lb → w.cell? ⟨Bb, i, none⟩ = some (.int .i64 (g i))) :
    Calls Try.prog 9 #[.slice ao la la, .slice bo lb lb, .int .i64 aLo, .int .i64 aHi, .int .i64 bLo, .int .i64 bHi] w fun e w' =>
      ∃ (CA CB : Nat) (ma mb : List Bool), e = .returned (.tuple #[.slice (some ⟨CA, 0, none⟩) la la, .slice (some ⟨CB, 0, none⟩) lb lb]) ∧ BBlk w' CA ma ∧ BBlk w' CB mb ∧ ma.length = la ∧ mb.length = lb ∧
        Out (List.replicate la false) ma aLo aHi ∧ Out (List.replicate lb false) mb bLo bHi ∧ Marked f g (mk ma) (mk mb) aLo (aHi - aLo) bLo (bHi - bLo) ∧ Below w.heap.size w w' := by
  have CMP : Hid (∀ (W : World) (Bd CA CB F G : Nat), Fresh w W ao bo la lb Bd CA CB F G → Calls Try.prog 19 #[.pointer (some ⟨Bd, 0, none⟩), .int .i64 aLo, .int .i64 aHi, .int .i64 bLo, .int .i64 bHi] W fun e w' => e = .returned (.tuple #[]) ∧
        ∃ (ma mb : List Bool), w'.cell? ⟨Bd, 2, none⟩ = some (.slice (some ⟨CA, 0, none⟩) la la) ∧ w'.cell? ⟨Bd, 3, none⟩ = some (.slice (some ⟨CB, 0, none⟩) lb lb) ∧ BBlk w' CA ma ∧ BBlk w' CB mb ∧ ma.length = la ∧ mb.length = lb ∧
          Out (List.replicate la false) ma aLo aHi ∧ Out (List.replicate lb false) mb bLo bHi ∧ Marked f g (mk ma) (mk mb) aLo (aHi - aLo) bLo (bHi - bLo) ∧ Below w.heap.size w w') := by
    intro W Bd CA CB F G hf
    obtain ⟨Ba, hao, hca, kA⟩ : ∃ Ba' : Nat, (0 < la → ao = some ⟨Ba', 0, none⟩) ∧ (∀ i, i < la → w.cell? ⟨Ba', i, none⟩ = some (.int .i64 (f i))) ∧ (Ba' < w.heap.size ∨ Bd + CA + CB + F + G < Ba') := by
      by_cases h0 : 0 < la
      · exact ⟨Ba, hao, hca, .inl (World.block_lt_of_cell? _ _ (hca 0 h0))⟩
      · exact ⟨Bd + CA + CB + F + G + 1, fun h => absurd h h0, fun i hi => by omega, .inr (by omega)⟩
    obtain ⟨Bb, hbo, hcb, kB⟩ : ∃ Bb' : Nat, (0 < lb → bo = some ⟨Bb', 0, none⟩) ∧ (∀ i, i < lb → w.cell? ⟨Bb', i, none⟩ = some (.int .i64 (g i))) ∧ (Bb' < w.heap.size ∨ Bd + CA + CB + F + G < Bb') := by
      by_cases h0 : 0 < lb
      · exact ⟨Bb, hbo, hcb, .inl (World.block_lt_of_cell? _ _ (hcb 0 h0))⟩
      · exact ⟨Bd + CA + CB + F + G + 1, fun h => absurd h h0, fun i hi => by omega, .inr (by omega)⟩
    have hl := hf.live hca hcb
    obtain ⟨f0, f1, f2, f3, f4, f5, f6⟩ := hf
    have A : Apart Bd CA CB F G Ba Bb := by constructor <;> omega
    refine (compare_any Bd CA CB F G Ba Bb la lb (la + lb + 1) ao bo f g A h7 h8 (by omega) (by omega) hao hbo _ aLo aHi bLo bHi _ _ _ _ W rfl h1 h2 h3 h4 hl (fun i i1 i2 => ?_) (fun i i1 i2 => ?_)).mono ?_
    · simp [show i < la by omega]
    · simp [show i < lb by omega]
    · rintro e w' ⟨he, ma, mb, fs, gs, L, S, oa, ob, M⟩
      exact ⟨he, ma, mb, L.d2, L.d3, L.bma, L.bmb, L.lma, L.lmb, oa, ob, M, f5.trans (S.below (by omega) (by omega) (by omega) (by omega))⟩
  clear hca hcb hao hbo h1 h2 h3 h4
  have ec : ((la + lb + 1 : Nat) : Int) = (la : Int) + (lb : Int) + 1 := by omega
  have hmk := fun w => run_make_row' (P := Try.prog) 22 3 (.int .i64 0) 8 Try.underlying22 info3 rfl .i64 .i64 (la + lb + 1) (by omega) (by omega) w
  have hmA := fun w => run_make_row' (P := Try.prog) 25 4 (.bool false) 1 Try.underlying25 info4 rfl .i64 .i64 la (by omega) (by omega) w
  have hmB := fun w => run_make_row' (P := Try.prog) 25 4 (.bool false) 1 Try.underlying25 info4 rfl .i64 .i64 lb (by omega) (by omega) w
  rw [ec] at hmk
  clear ec
  go_enter Try.func9, Try.ntmps9
  go_wp2
  go_cut [14] from 15 (fun v wc => ∃ Bd CA CB F G : Nat, v = .pointer (some ⟨Bd, 0, none⟩) ∧ Fresh w wc ao bo la lb Bd CA CB F G)
  case first =>
    go_region
    all_goals
      go_wp2
      go_meet
      case rel =>
        refine ⟨_, _, _, _, _, rfl, fr4 _ _ _ _ _ _, ?_, ?_, ?_, ?_, fr_bel _ _ _ _ _ _, ?_⟩
        · first | exact fr0 _ _ _ _ _ _ | exact fr1 _ _ _ _ _ _ | exact fr2 _ _ _ _ _ _ | exact fr3 _ _ _ _ _ _
        · first | exact fr0 _ _ _ _ _ _ | exact fr1 _ _ _ _ _ _ | exact fr2 _ _ _ _ _ _ | exact fr3 _ _ _ _ _ _
        · first | exact fr0 _ _ _ _ _ _ | exact fr1 _ _ _ _ _ _ | exact fr2 _ _ _ _ _ _ | exact fr3 _ _ _ _ _ _
        · first | exact fr0 _ _ _ _ _ _ | exact fr1 _ _ _ _ _ _ | exact fr2 _ _ _ _ _ _ | exact fr3 _ _ _ _ _ _
        · rw [fr_size]; omega
  case rest =>
    clear hmk hmA hmB
    obtain ⟨Bd, CA, CB, F, G, rfl, hf⟩ := hcut
    have HC : Hid (Calls Try.prog 19 #[.pointer (some ⟨Bd, 0, none⟩), .int .i64 aLo, .int .i64 aHi, .int .i64 bLo, .int .i64 bHi] wc fun e w' => e = .returned (.tuple #[]) ∧
        ∃ (ma mb : List Bool), w'.cell? ⟨Bd, 2, none⟩ = some (.slice (some ⟨CA, 0, none⟩) la la) ∧ w'.cell? ⟨Bd, 3, none⟩ = some (.slice (some ⟨CB, 0, none⟩) lb lb) ∧ BBlk w' CA ma ∧ BBlk w' CB mb ∧ ma.length = la ∧ mb.length = lb ∧
          Out (List.replicate la false) ma aLo aHi ∧ Out (List.replicate lb false) mb bLo bHi ∧ Marked f g (mk ma) (mk mb) aLo (aHi - aLo) bLo (bHi - bLo) ∧ Below w.heap.size w w') := CMP.out wc Bd CA CB F G hf
    clear hf CMP
    go_wp2_with fail
    refine HC.out.mono ?_
    rintro e w1 ⟨rfl, ma, mb, e2, e3, rest⟩
    have HE : Hid (BBlk w1 CA ma ∧ BBlk w1 CB mb ∧ ma.length = la ∧ mb.length = lb ∧ Out (List.replicate la false) ma aLo aHi ∧ Out (List.replicate lb false) mb bLo bHi ∧ Marked f g (mk ma) (mk mb) aLo (aHi - aLo) bLo (bHi - bLo) ∧ Below w.heap.size w w1) := rest
    clear rest HC
    go_wp2_with fail
    go_quiet (fail)
    go_wp2
    go_ret2
    obtain ⟨r1, r2, r3, r4, r5, r6, r7, r8⟩ := HE.out
    exact ⟨CA, CB, ma, mb, rfl, r1.drewN nq, r2.drewN nq, r3, r4, r5, r6, r7, Below.drewN' r8 _⟩
end Go.Proofs.Qxb6602961a.W
