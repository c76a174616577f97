/- zzLCS and zzDist, walked. -/
import Derived.Test.Qxb6602961aMem
import Derived.Test.Qxb6602961aLcs
namespace Go.Proofs.Qxb6602961a.W
open Go.RowKit Myers
set_option linter.unusedVariables false

theorem tab_le (f g : Nat → Int) (i j : Nat) : tab f g i j ≤ j := by
  have := lc_le_right f g 0 0 i j
  simpa [lc] using this
theorem tab_hit (f g : Nat → Int) (i j : Nat) (h : f i = g j) : tab f g (i + 1) (j + 1) = tab f g i j + 1 := by
  show (if f i = g j then tab f g i j + 1 else max (tab f g i (j + 1)) (tab f g (i + 1) j)) = _
  rw [if_pos h]
theorem tab_up (f g : Nat → Int) (i j : Nat) (h : f i ≠ g j) (hl : tab f g (i + 1) j ≤ tab f g i (j + 1)) : tab f g (i + 1) (j + 1) = tab f g i (j + 1) := by
  show (if f i = g j then tab f g i j + 1 else max (tab f g i (j + 1)) (tab f g (i + 1) j)) = _
  rw [if_neg h, Nat.max_eq_left hl]
theorem tab_side (f g : Nat → Int) (i j : Nat) (h : f i ≠ g j) (hl : tab f g i (j + 1) < tab f g (i + 1) j) : tab f g (i + 1) (j + 1) = tab f g (i + 1) j := by
  show (if f i = g j then tab f g i j + 1 else max (tab f g i (j + 1)) (tab f g (i + 1) j)) = _
  rw [if_neg h, Nat.max_eq_right (by omega)]

/-- the first j + 1 numbers of the row are those of the table's row i -/
def Fill (f g : Nat → Int) (m i j : Nat) (qs : List Int) : Prop := qs.length = m + 1 ∧ ∀ t, t ≤ j → qs.getD t 0 = (tab f g i t : Int)
theorem Fill.next {f g : Nat → Int} {m i j : Nat} {qs : List Int} (h : Fill f g m i j qs) (hj : j < m) (z : Int) (hz : z = (tab f g i (j + 1) : Int)) : Fill f g m i (j + 1) (qs.set (j + 1) z) := by
  refine ⟨by rw [List.length_set]; exact h.1, fun t ht => ?_⟩
  by_cases e : t = j + 1
  · subst e
    have := h.1
    simp [show j + 1 < qs.length by omega, hz]
  · have := h.2 t (by omega)
    have e' : j + 1 ≠ t := fun h => e h.symm
    simpa [e'] using this
theorem Fill.first {f g : Nat → Int} {m i : Nat} {qs : List Int} (h : qs.length = m + 1) : Fill f g m (i + 1) 0 (qs.set 0 0) := by
  refine ⟨by rw [List.length_set]; exact h, fun t ht => ?_⟩
  obtain rfl : t = 0 := by omega
  have e : tab f g (i + 1) 0 = 0 := rfl
  rw [e]
  simp [show 0 < qs.length by omega]

set_option maxHeartbeats 1000000 in
theorem lcs_any (a b : Option Addr) (n m ca cb : Nat) (f g : Nat → Int) (w : World) (ha : Reads w a n f) (hb : Reads w b m g) (hn : n ≤ 131072) (hm : m ≤ 131072) :
    Calls Try.prog 20 #[.slice a n ca, .slice b m cb] w fun e w' => e = .returned (.int .i64 (tab f g n m)) ∧ Below w.heap.size w w' := by
  have HA : Hid (Reads w a n f) := ha
  have HB : Hid (Reads w b m g) := hb
  clear ha hb
  have ec : ((m + 1 : Nat) : Int) = (m : Int) + 1 := by omega
  have hmk := fun w => run_make_row' (P := Try.prog) 22 3 (.int .i64 0) 8 Try.underlying22 info3 rfl .i64 .i64 (m + 1) (by omega) (by omega) w
  rw [ec] at hmk
  clear ec
  go_enter Try.func20, Try.ntmps20
  go_wp2
  clear hmk
  go_loopw [5, 6, 7, 8] (fun pv cv i _ wr => ∃ (k p q : Nat) (ps qs : List Int), k ≤ n ∧ i = .int .i64 k ∧ pv = .slice (some ⟨p, 0, none⟩) (m + 1) (m + 1) ∧ cv = .slice (some ⟨q, 0, none⟩) (m + 1) (m + 1) ∧
      p ≠ q ∧ w.heap.size ≤ p ∧ w.heap.size ≤ q ∧ Blk wr p ps ∧ Fill f g m k m ps ∧ Blk wr q qs ∧ qs.length = m + 1 ∧ Below w.heap.size w wr) (fun _ _ i _ _ => n - (intOf i).toNat)
  case atStart =>
    refine ⟨0, w.heap.size, w.heap.size + 1, List.replicate (m + 1) 0, List.replicate (m + 1) 0, by omega, rfl, rfl, rfl, by omega, by omega, by omega, ?_, ?_, ?_, by simp, ?_⟩
    · exact (Blk.made w (m + 1)).alloc _
    · refine ⟨by simp, fun t ht => ?_⟩
      have e : tab f g 0 t = 0 := rfl
      rw [e]
      simp [show t < m + 1 by omega]
    · have := Blk.made (w.alloc (.cells (madeCells #[Value.int .i64 0] (m + 1)) 3)) (m + 1)
      rwa [World.size_alloc] at this
    · exact ((Below.refl _ _).alloc (Nat.le_refl _) _).alloc (by simp) _
  case round =>
    obtain ⟨k, p, q, ps, qs, hk, rfl, rfl, rfl, hpq, hp, hq, hbp, hfp, hbq, hlq, hbel⟩ := hrel
    obtain ⟨wo, rfl⟩ : ∃ wo : World, wo = wr := ⟨_, rfl⟩
    by_cases hlt : k < n
    · have hold := hbq.cell 0 (by omega)
      have hfree := hbq.free 0
      have HBP : Hid (Blk wo p ps) := hbp
      have HFP : Hid (Fill f g m k m ps) := hfp
      have HBQ : Hid (Blk wo q qs) := hbq
      have HLQ : Hid (qs.length = m + 1) := hlq
      have HBel : Hid (Below w.heap.size w wo) := hbel
      have HPQ : Hid (p ≠ q) := hpq
      clear hbp hfp hbq hlq hbel hpq
      go_wp2
      clear hold hfree
      go_loopw [8] (fun j wr => ∃ (t : Nat) (qs : List Int), t ≤ m ∧ j = .int .i64 t ∧ Blk wr p ps ∧ Blk wr q qs ∧ Fill f g m (k + 1) t qs ∧ Below w.heap.size w wr) (fun j _ => m - (intOf j).toNat)
      case atStart =>
        refine ⟨0, qs.set 0 0, by omega, rfl, HBP.out.other HPQ.out _, HBQ.out.set 0 0, Fill.first HLQ.out, HBel.out.setCell hq _⟩
      case round =>
        obtain ⟨t, qs, ht, rfl, hbp, hbq, hfq, hbel⟩ := hrel
        clear HBP HBQ HLQ HBel
        by_cases hlt2 : t < m
        · obtain ⟨ba, oa, rfl, hca⟩ := HA.out (by omega)
          obtain ⟨bb, ob, rfl, hcb⟩ := HB.out (by omega)
          obtain ⟨z1, hz1⟩ : ∃ z, z = f k := ⟨_, rfl⟩
          obtain ⟨z2, hz2⟩ : ∃ z, z = g t := ⟨_, rfl⟩
          have c1 : wr.cell? ⟨ba, oa + k, none⟩ = some (.int .i64 z1) := by
            rw [hbel.cell (World.block_lt_of_cell? _ _ (hca k hlt)), hz1]; exact hca k hlt
          have c2 : wr.cell? ⟨bb, ob + t, none⟩ = some (.int .i64 z2) := by
            rw [hbel.cell (World.block_lt_of_cell? _ _ (hcb t hlt2)), hz2]; exact hcb t hlt2
          have c3 := hbp.cell t (by have := HFP.out.1; omega)
          have c4 := hbp.cell (t + 1) (by have := HFP.out.1; omega)
          have c5 := hbq.cell t (by have := hfq.1; omega)
          have c6 := hbq.cell (t + 1) (by have := hfq.1; omega)
          rw [HFP.out.2 t (by omega)] at c3
          rw [HFP.out.2 (t + 1) (by omega)] at c4
          rw [hfq.2 t (by omega)] at c5
          have l3 := tab_le f g k t
          have l4 := tab_le f g k (t + 1)
          have l5 := tab_le f g (k + 1) t
          have hfree := hbq.free (t + 1)
          have HBP : Hid (Blk wr p ps) := hbp
          have HBQ : Hid (Blk wr q qs) := hbq
          have HFQ : Hid (Fill f g m (k + 1) t qs) := hfq
          have HBel : Hid (Below w.heap.size w wr) := hbel
          have H1 : Hid (tab f g (k + 1) (t + 1) = if z1 = z2 then tab f g k t + 1 else max (tab f g k (t + 1)) (tab f g (k + 1) t)) := by rw [hz1, hz2]; rfl
          clear hbp hbq hfq hbel hca hcb hz1 hz2 HA HB
          generalize tab f g k t = v0 at c3 l3 H1
          generalize tab f g k (t + 1) = v1 at c4 l4 H1
          generalize tab f g (k + 1) t = y0 at c5 l5 H1
          have hz : (t : Int) + 1 = ((t + 1 : Nat) : Int) := by omega
          have HZ : Hid ((t : Int) + 1 = ((t + 1 : Nat) : Int)) := hz
          clear hz
          by_cases heq : z1 = z2
          · subst heq
            have H2 : tab f g (k + 1) (t + 1) = v0 + 1 := by have := H1.out; rwa [if_pos rfl] at this
            have H3 : Hid (((v0 : Int) + 1) = (tab f g (k + 1) (t + 1) : Int)) := by rw [H2]; show _ = _; omega
            clear H1 H2
            go_wp2
            go_quiet (fail)
            go_wp2
            go_roundw
            case rel => exact ⟨t + 1, _, by omega, by go_num, (HBP.out.drewN nq).other HPQ.out _, (HBQ.out.drewN nq).set (t + 1) _, HFQ.out.next hlt2 _ H3.out, (Below.drewN' HBel.out nq).setCell hq _⟩
            case measure => simp [intOf]; omega
          · have H2 : tab f g (k + 1) (t + 1) = max v1 y0 := by have := H1.out; rwa [if_neg heq] at this
            have hd : (z1 == z2) = false := by simpa using heq
            by_cases hge : y0 ≤ v1
            · have H3 : Hid ((v1 : Int) = (tab f g (k + 1) (t + 1) : Int)) := by rw [H2, Nat.max_eq_left hge]; rfl
              clear H1 H2 heq
              go_wp2
              go_quiet (fail)
              go_wp2
              go_quiet (fail)
              go_wp2
              go_roundw
              case rel => exact ⟨t + 1, _, by omega, by go_num, (HBP.out.drewN _).other HPQ.out _, (HBQ.out.drewN _).set (t + 1) _, HFQ.out.next hlt2 _ H3.out, (Below.drewN' HBel.out _).setCell hq _⟩
              case measure => simp [intOf]; omega
            · have H3 : Hid ((y0 : Int) = (tab f g (k + 1) (t + 1) : Int)) := by rw [H2, Nat.max_eq_right (by omega)]; rfl
              clear H1 H2 heq
              go_wp2
              go_quiet (fail)
              go_wp2
              go_quiet (fail)
              go_wp2
              go_roundw
              case rel => exact ⟨t + 1, _, by omega, by go_num, (HBP.out.drewN _).other HPQ.out _, (HBQ.out.drewN _).set (t + 1) _, HFQ.out.next hlt2 _ H3.out, (Below.drewN' HBel.out _).setCell hq _⟩
              case measure => simp [intOf]; omega
        · obtain rfl : t = m := by omega
          have HBP : Hid (Blk wr p ps) := hbp
          have HBQ : Hid (Blk wr q qs) := hbq
          have HFQ : Hid (Fill f g t (k + 1) t qs) := hfq
          have HBel : Hid (Below w.heap.size w wr) := hbel
          clear hbp hbq hfq hbel
          go_wp2
          go_roundw
          case rel => exact ⟨k + 1, q, p, qs, ps, by omega, by go_num, rfl, rfl, fun h => HPQ.out h.symm, hq, hp, HBQ.out, HFQ.out, HBP.out, HFP.out.1, HBel.out⟩
          case measure => simp [intOf]; omega
    · obtain rfl : k = n := by omega
      have c1 := hbp.cell m (by have := hfp.1; omega)
      rw [hfp.2 m (by omega)] at c1
      have HBel : Hid (Below w.heap.size w wo) := hbel
      clear hbp hfp hbq hbel HA HB
      go_wp2
      go_ret
      exact ⟨rfl, HBel.out⟩

theorem tab_le_left (f g : Nat → Int) (i j : Nat) : tab f g i j ≤ i := by
  have := lc_le_left f g 0 0 i j
  simpa [lc] using this

set_option maxHeartbeats 400000 in
theorem dist_any (a b : Option Addr) (n m ca cb : Nat) (f g : Nat → Int) (w : World) (ha : Reads w a n f) (hb : Reads w b m g) (hn : n ≤ 131072) (hm : m ≤ 131072) :
    Calls Try.prog 10 #[.slice a n ca, .slice b m cb] w fun e w' => e = .returned (.int .i64 ((n : Int) + m - 2 * (tab f g n m : Int))) ∧ Below w.heap.size w w' := by
  have C : Hid (Calls Try.prog 20 #[.slice a n ca, .slice b m cb] w fun e w' => e = .returned (.int .i64 (tab f g n m)) ∧ Below w.heap.size w w') := lcs_any a b n m ca cb f g w ha hb hn hm
  have l1 := tab_le f g n m
  have l2 := tab_le_left f g n m
  clear ha hb
  go_enter Try.func10, Try.ntmps10
  go_wp2_with fail
  refine C.out.mono ?_
  rintro e w1 ⟨rfl, hb⟩
  have HB : Hid (Below w.heap.size w w1) := hb
  clear hb C
  go_wp2
  go_ret
  exact ⟨rfl, HB.out⟩
end Go.Proofs.Qxb6602961a.W
