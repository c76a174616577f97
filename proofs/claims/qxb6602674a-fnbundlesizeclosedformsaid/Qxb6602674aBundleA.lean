import Derived.Test.Qxb6602674aRows
import Derived.WalkKit
import Derived.WalkSpells
import Derived.WalkLawsBesides
import Derived.Deep.OwnRows
namespace Go.Proofs.Qxb6602674a.BundleW
open Go.RowKit
set_option linter.unusedVariables false

/-- the sum of the first k numbers, in the integers -/
def tot (zs : List Int) (k : Nat) : Int := (zs.take k).sum
theorem tot_zero (zs : List Int) : tot zs 0 = 0 := by simp [tot]
theorem tot_succ (zs : List Int) (k : Nat) (h : k < zs.length) : tot zs (k + 1) = tot zs k + zs.getD k 0 := by
  unfold tot
  rw [List.take_succ_eq_append_getElem h, List.sum_append]
  simp [h]

theorem wrap_step (a b z : Int) : wrap64 (wrap64 a + wrap64 (2 + z)) = wrap64 (a + (z + 2)) := by
  unfold wrap64; omega
theorem wrap_step1 (a z : Int) : wrap64 (wrap64 a + z) = wrap64 (a + z) := by
  unfold wrap64; omega
theorem wrap_end (t n : Int) : wrap64 (t + 2 * n) = wrap64 (2 * n + wrap64 t) := by
  unfold wrap64; omega

theorem start_tot (zs : List Int) : Value.int .i64 0 = .int .i64 (wrap64 (tot zs 0 + 2 * ((0 : Nat) : Int))) := by
  rw [tot_zero]; unfold wrap64; rfl
theorem start_tot1 (zs : List Int) : Value.int .i64 0 = .int .i64 (wrap64 (tot zs 0)) := by
  rw [tot_zero]; unfold wrap64; rfl

/-- A slice of ints that can be read: its numbers are zs. -/
def Reads (w : World) (a : Option Addr) (zs : List Int) : Prop :=
  0 < zs.length → ∃ b off, a = some ⟨b, off, none⟩ ∧ ∀ i, i < zs.length → w.cell? ⟨b, off + i, none⟩ = some (.int .i64 (zs.getD i 0))

set_option maxHeartbeats 400000 in
theorem size_any (a : Option Addr) (cap : Nat) (zs : List Int) (w : World) (hr : Reads w a zs) (hl : zs.length ≤ 131072) :
    Calls Try.prog 13 #[.slice a zs.length cap] w fun e w' => e = .returned (.int .i64 (wrap64 (tot zs zs.length + 2 * zs.length))) ∧ w' = w := by
  have HR : Hid (Reads w a zs) := hr
  clear hr
  obtain ⟨n, hn⟩ : ∃ n, n = zs.length := ⟨_, rfl⟩
  have HN : Hid (n = zs.length) := hn
  rw [← hn] at hl ⊢
  clear hn
  go_enter Try.func13, Try.ntmps13
  go_wp2
  go_loop [3, 5, 8] (fun s _ i => ∃ k : Nat, k ≤ n ∧ i = .int .i64 k ∧ s = .int .i64 (wrap64 (tot zs k + 2 * k))) (fun _ _ i => n - (intOf i).toNat)
  case atStart => exact ⟨0, by omega, rfl, start_tot zs⟩
  case round =>
    obtain ⟨k, hk, rfl, rfl⟩ := hrel
    by_cases hlt : k < n
    · obtain ⟨b, off, rfl, hc⟩ := HR.out (by have := HN.out; omega)
      obtain ⟨z, hz⟩ : ∃ z, z = zs.getD k 0 := ⟨_, rfl⟩
      have hcell := hc k (by have := HN.out; omega)
      rw [← hz] at hcell
      have HS : Hid (tot zs (k + 1) = tot zs k + z) := by rw [hz]; exact tot_succ zs k (by have := HN.out; omega)
      clear hz hc
      go_wp2
      go_round
      case rel => exact ⟨k + 1, by omega, by go_num, by rw [wrap_step _ 0, HS.out]; congr 2; omega⟩
      case measure => simp [intOf]; omega
    · obtain rfl : k = n := by omega
      go_wp2
      go_ret
      exact ⟨rfl, rfl⟩

/-- A block of the call's own: just these numbers. -/
def Blk (w : World) (b : Nat) (zs : List Int) : Prop := w.heap[b]? = some (.cells (zs.map (Value.int .i64)).toArray 3 (0, 0))

theorem Blk.cell {w : World} {b : Nat} {zs : List Int} (h : Blk w b zs) (i : Nat) (hi : i < zs.length) : w.cell? ⟨b, i, none⟩ = some (.int .i64 (zs.getD i 0)) := by
  unfold Blk at h
  simp [World.cell?, h, hi]
theorem Blk.free {w : World} {b : Nat} {zs : List Int} (h : Blk w b zs) (i : Nat) : w.frozen? ⟨b, i, none⟩ = false := by
  unfold Blk at h
  simp [World.frozen?, h]
theorem Blk.lt {w : World} {b : Nat} {zs : List Int} (h : Blk w b zs) : b < w.heap.size := lt_of_block h
theorem Blk.set {w : World} {b : Nat} {zs : List Int} (h : Blk w b zs) (i : Nat) (z : Int) : Blk (w.setCell ⟨b, i, none⟩ (.int .i64 z)) b (zs.set i z) := by
  have hlt := h.lt
  unfold Blk at h ⊢
  have h' : w.heap[b] = .cells (zs.map (Value.int .i64)).toArray 3 (0, 0) := by simpa [Array.getElem?_eq_getElem hlt] using h
  show (w.heap.modify b _)[b]? = _
  rw [Array.getElem?_eq_getElem (by simpa using hlt), Array.getElem_modify_self, h']
  simp [List.map_set]
theorem Blk.other {w : World} {b : Nat} {zs : List Int} (h : Blk w b zs) {a : Addr} (ha : b ≠ a.block) (u : Value) : Blk (w.setCell a u) b zs := by
  unfold Blk at h ⊢
  rw [Below.heap_setCell _ _ _ _ ha]; exact h
theorem Blk.alloc {w : World} {b : Nat} {zs : List Int} (h : Blk w b zs) (o : Obj) : Blk (w.alloc o) b zs := by
  have hlt := h.lt
  unfold Blk at h ⊢
  rw [Below.heap_alloc _ _ _ hlt]; exact h
theorem Blk.below {w w' : World} {b B : Nat} {zs : List Int} (h : Blk w b zs) (hb : Below B w w') (hlt : b < B) : Blk w' b zs := by
  unfold Blk at h ⊢
  rw [hb.block b hlt]; exact h
theorem Blk.reads {w : World} {b : Nat} {zs : List Int} (h : Blk w b zs) : Reads w (some ⟨b, 0, none⟩) zs :=
  fun _ => ⟨b, 0, rfl, fun i hi => by rw [Nat.zero_add]; exact h.cell i hi⟩
/-- what 'make' lays -/
theorem Blk.made (w : World) (n : Nat) : Blk (w.alloc (.cells (madeCells #[Value.int .i64 0] n) 3)) w.heap.size (List.replicate n 0) := by
  unfold Blk
  rw [heap_alloc_new]
  congr 2
  apply Array.ext'
  simp only [madeCells, Array.toList_map, Array.toList_range, List.map_replicate, List.size_toArray, List.length_cons, List.length_nil, Nat.zero_add, Nat.mod_one]
  rw [List.eq_replicate_iff]
  simp

theorem info3 : (Try.prog.info? 3).map (fun i => (i.zero, i.size, i.bytes)) = some (some (.int .i64 0), 1, 8) := by kernel_rfl

/-- a copy of the first k numbers, noughts behind -/
def part (zs : List Int) (k : Nat) : List Int := zs.take k ++ List.replicate (zs.length - k) 0
theorem part_len (zs : List Int) (k : Nat) (h : k ≤ zs.length) : (part zs k).length = zs.length := by simp [part]; omega
theorem part_get (zs : List Int) (k i : Nat) (hk : k ≤ zs.length) (hi : i < zs.length) : (part zs k)[i]? = some (if i < k then zs.getD i 0 else 0) := by
  unfold part
  by_cases e : i < k
  · rw [List.getElem?_append_left (by simp; omega), if_pos e]
    simp [e, hi]
  · rw [List.getElem?_append_right (by simp; omega), if_neg e, List.getElem?_replicate, if_pos (by simp; omega)]
theorem part_set (zs : List Int) (k : Nat) (h : k < zs.length) : (part zs k).set k (zs.getD k 0) = part zs (k + 1) := by
  apply List.ext_getElem?
  intro i
  by_cases hi : i < zs.length
  · rw [part_get zs (k + 1) i (by omega) hi, List.getElem?_set, part_len zs k (by omega)]
    by_cases e : k = i
    · subst e; simp [h]
    · rw [if_neg e, part_get zs k i (by omega) hi]
      congr 1
      by_cases e2 : i < k
      · rw [if_pos e2, if_pos (by omega)]
      · rw [if_neg e2, if_neg (by omega)]
  · rw [List.getElem?_eq_none (by rw [List.length_set, part_len zs k (by omega)]; omega), List.getElem?_eq_none (by rw [part_len zs (k + 1) (by omega)]; omega)]
theorem part_end (zs : List Int) : part zs zs.length = zs := by simp [part]


set_option maxHeartbeats 400000 in
theorem clone_nil (w : World) : Calls Try.prog 12 #[.slice none 0 0] w fun e w' => e = .returned (.slice none 0 0) ∧ w' = w := by
  have heq := fun w => Lib.run_eql_slice_nil (P := Try.prog) w 34 3 none 0 0 0 0 Try.underlying34
  go_enter Try.func12, Try.ntmps12
  go_wp2
  go_ret
  exact ⟨rfl, rfl⟩

set_option maxHeartbeats 400000 in
theorem clone_some (x : Addr) (cap : Nat) (zs : List Int) (w : World) (hr : Reads w (some x) zs) (hl : zs.length ≤ 131072) :
    Calls Try.prog 12 #[.slice (some x) zs.length cap] w fun e w' => e = .returned (.slice (some ⟨w.heap.size, 0, none⟩) zs.length zs.length) ∧ Blk w' w.heap.size zs ∧ Below w.heap.size w w' := by
  have HR : Hid (Reads w (some x) zs) := hr
  clear hr
  have heq := fun w => Lib.run_eql_slice_nil (P := Try.prog) w 34 3 (some x) zs.length cap 0 0 Try.underlying34
  obtain ⟨n, hn⟩ : ∃ n, n = zs.length := ⟨_, rfl⟩
  have HN : Hid (n = zs.length) := hn
  rw [← hn] at hl heq ⊢
  clear hn
  have hmk := fun w => run_make_row' (P := Try.prog) 34 3 (.int .i64 0) 8 Try.underlying34 info3 rfl .i64 .i64 n (by omega) (by omega) w
  go_enter Try.func12, Try.ntmps12
  go_wp2
  clear hmk heq
  go_loopw [4] (fun i wr => ∃ k : Nat, k ≤ n ∧ i = .int .i64 k ∧ Blk wr w.heap.size (part zs k) ∧ Below w.heap.size w wr) (fun i _ => n - (intOf i).toNat)
  case atStart =>
    refine ⟨0, by omega, rfl, ?_, (Below.refl _ _).alloc (Nat.le_refl _) _⟩
    have := Blk.made w n
    rw [HN.out] at this ⊢
    simpa [part] using this
  case round =>
    obtain ⟨k, hk, rfl, hb, hbel⟩ := hrel
    by_cases hlt : k < n
    · obtain ⟨b, off, hx, hc⟩ := HR.out (by have := HN.out; omega)
      obtain rfl : x = ⟨b, off, none⟩ := by simpa using hx
      clear hx
      obtain ⟨z, hz⟩ : ∃ z, z = zs.getD k 0 := ⟨_, rfl⟩
      have hcell0 := hc k (by have := HN.out; omega)
      have hbw : b < w.heap.size := World.block_lt_of_cell? _ _ hcell0
      have hcell : wr.cell? ⟨b, off + k, none⟩ = some (.int .i64 z) := by
        rw [hbel.cell (by exact hbw), hz]; exact hcell0
      have hset := hb.set k z
      have HS : Hid (Blk (wr.setCell ⟨w.heap.size, k, none⟩ (.int .i64 z)) w.heap.size (part zs (k + 1))) := by
        rw [hz, part_set zs k (by have := HN.out; omega)] at hset
        rw [hz]; exact hset
      have HB : Hid (Below w.heap.size w (wr.setCell ⟨w.heap.size, k, none⟩ (.int .i64 z))) := hbel.setCell (by exact Nat.le_refl _) _
      have hold := hb.cell k (by rw [part_len zs k (by have := HN.out; omega)]; have := HN.out; omega)
      have hfree := hb.free k
      clear hset hz hc hcell0 hb hbel
      go_wp2
      go_roundw
      case rel => exact ⟨k + 1, by omega, by go_num, HS.out, HB.out⟩
      case measure => simp [intOf]; omega
    · obtain rfl : k = n := by omega
      have HB : Hid (Blk wr w.heap.size (part zs k)) := hb
      have HL : Hid (Below w.heap.size w wr) := hbel
      clear hb hbel
      go_wp2
      go_ret
      have h1 := HB.out
      rw [HN.out, part_end] at h1
      exact ⟨rfl, h1, HL.out⟩
end Go.Proofs.Qxb6602674a.BundleW
