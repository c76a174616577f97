/- WHAT THE WALKS SAY OF MEMORY: rows of ints that came in (Reads), rows of the call's own (Blk). And the copying function. -/
import Derived.Test.Qxb6602961aRows
import Derived.WalkKit
import Derived.WalkSpells
import Derived.WalkLawsBesides
import Derived.BigQuiet
import Derived.Deep.OwnRows
namespace Go.Proofs.Qxb6602961a.W
open Go.RowKit
set_option linter.unusedVariables false

/-- a slice of n ints that can be read: f tells them -/
def Reads (w : World) (a : Option Addr) (n : Nat) (f : Nat → Int) : Prop :=
  0 < n → ∃ b off, a = some ⟨b, off, none⟩ ∧ ∀ i, i < n → w.cell? ⟨b, off + i, none⟩ = some (.int .i64 (f i))

/-- A block of the call's own: just these numbers. -/
def Blk (w : World) (b : Nat) (zs : List Int) : Prop := w.heap[b]? = some (.cells (zs.map (Value.int .i64)).toArray 3 (0, 0))

theorem Blk.cell {w : World} {b : Nat} {zs : List Int} (h : Blk w b zs) (i : Nat) (hi : i < zs.length) : w.cell? ⟨b, i, none⟩ = some (.int .i64 (zs.getD i 0)) := by
  unfold Blk at h
  simp [World.cell?, h, hi]
theorem Blk.free {w : World} {b : Nat} {zs : List Int} (h : Blk w b zs) (i : Nat) : w.frozen? ⟨b, i, none⟩ = false := by
  unfold Blk at h
  simp [World.frozen?, h]
theorem Blk.lt {w : World} {b : Nat} {zs : List Int} (h : Blk w b zs) : b < w.heap.size := lt_of_block h
theorem Blk.set {w : World} {b : Nat} {zs : List Int} (h : Blk w b zs) (i : Nat) (z : Int) : Blk (w.setCell ⟨b, i, none⟩ (.int .i64 z)) b (zs.set i z) := by
  have hlt := h.lt
  unfold Blk at h ⊢
  have h' : w.heap[b] = .cells (zs.map (Value.int .i64)).toArray 3 (0, 0) := by simpa [Array.getElem?_eq_getElem hlt] using h
  show (w.heap.modify b _)[b]? = _
  rw [Array.getElem?_eq_getElem (by simpa using hlt), Array.getElem_modify_self, h']
  simp [List.map_set]
theorem Blk.other {w : World} {b : Nat} {zs : List Int} (h : Blk w b zs) {a : Addr} (ha : b ≠ a.block) (u : Value) : Blk (w.setCell a u) b zs := by
  unfold Blk at h ⊢
  rw [Below.heap_setCell _ _ _ _ ha]; exact h
theorem Blk.alloc {w : World} {b : Nat} {zs : List Int} (h : Blk w b zs) (o : Obj) : Blk (w.alloc o) b zs := by
  have hlt := h.lt
  unfold Blk at h ⊢
  rw [Below.heap_alloc _ _ _ hlt]; exact h
theorem Blk.drew {w : World} {b : Nat} {zs : List Int} (h : Blk w b zs) : Blk w.drew b zs := h
theorem Blk.drewN {w : World} {b : Nat} {zs : List Int} (h : Blk w b zs) (n : Nat) : Blk (w.drewN n) b zs := h
theorem Blk.below {w w' : World} {b B : Nat} {zs : List Int} (h : Blk w b zs) (hb : Below B w w') (hlt : b < B) : Blk w' b zs := by
  unfold Blk at h ⊢
  rw [hb.block b hlt]; exact h
theorem Blk.reads {w : World} {b : Nat} {zs : List Int} (h : Blk w b zs) (n : Nat) (f : Nat → Int) (hn : n ≤ zs.length) (hf : ∀ i, i < n → f i = zs.getD i 0) : Reads w (some ⟨b, 0, none⟩) n f :=
  fun _ => ⟨b, 0, rfl, fun i hi => by rw [Nat.zero_add, hf i hi]; exact h.cell i (by omega)⟩
theorem Reads.below {w w' : World} {a : Option Addr} {n B : Nat} {f : Nat → Int} (h : Reads w a n f) (hb : Below B w w') (hB : w.heap.size ≤ B) : Reads w' a n f := by
  intro hn
  obtain ⟨b, off, rfl, hc⟩ := h hn
  refine ⟨b, off, rfl, fun i hi => ?_⟩
  have hb' : b < w.heap.size := World.block_lt_of_cell? _ _ (hc i hi)
  rw [hb.cell (by show b < B; omega)]
  exact hc i hi
theorem Below.drewN' {B : Nat} {a w : World} (h : Below B a w) (n : Nat) : Below B a (w.drewN n) := ⟨h.os, h.tape, h.output, h.size, h.block⟩

/-- what 'make' lays -/
theorem Blk.made (w : World) (n : Nat) : Blk (w.alloc (.cells (madeCells #[Value.int .i64 0] n) 3)) w.heap.size (List.replicate n 0) := by
  unfold Blk
  rw [heap_alloc_new]
  congr 2
  apply Array.ext'
  simp only [madeCells, Array.toList_map, Array.toList_range, List.map_replicate, List.size_toArray, List.length_cons, List.length_nil, Nat.zero_add, Nat.mod_one]
  rw [List.eq_replicate_iff]
  simp

theorem info3 : (Try.prog.info? 3).map (fun i => (i.zero, i.size, i.bytes)) = some (some (.int .i64 0), 1, 8) := by kernel_rfl

/-- a copy of the first k numbers, noughts behind -/
def part (zs : List Int) (k : Nat) : List Int := zs.take k ++ List.replicate (zs.length - k) 0
theorem part_len (zs : List Int) (k : Nat) (h : k ≤ zs.length) : (part zs k).length = zs.length := by simp [part]; omega
theorem part_get (zs : List Int) (k i : Nat) (hk : k ≤ zs.length) (hi : i < zs.length) : (part zs k)[i]? = some (if i < k then zs.getD i 0 else 0) := by
  unfold part
  by_cases e : i < k
  · rw [List.getElem?_append_left (by simp; omega), if_pos e]
    simp [e, hi]
  · rw [List.getElem?_append_right (by simp; omega), if_neg e, List.getElem?_replicate, if_pos (by simp; omega)]
theorem part_set (zs : List Int) (k : Nat) (h : k < zs.length) : (part zs k).set k (zs.getD k 0) = part zs (k + 1) := by
  apply List.ext_getElem?
  intro i
  by_cases hi : i < zs.length
  · rw [part_get zs (k + 1) i (by omega) hi, List.getElem?_set, part_len zs k (by omega)]
    by_cases e : k = i
    · subst e; simp [h]
    · rw [if_neg e, part_get zs k i (by omega) hi]
      congr 1
      by_cases e2 : i < k
      · rw [if_pos e2, if_pos (by omega)]
      · rw [if_neg e2, if_neg (by omega)]
  · rw [List.getElem?_eq_none (by rw [List.length_set, part_len zs k (by omega)]; omega), List.getElem?_eq_none (by rw [part_len zs (k + 1) (by omega)]; omega)]
theorem part_end (zs : List Int) : part zs zs.length = zs := by simp [part]

set_option maxHeartbeats 400000 in
theorem copy_nil (w : World) : Calls Try.prog 8 #[.slice none 0 0] w fun e w' => e = .returned (.slice none 0 0) ∧ w' = w := by
  have heq := fun w => Lib.run_eql_slice_nil (P := Try.prog) w 22 3 none 0 0 0 0 Try.underlying22
  go_enter Try.func8, Try.ntmps8
  go_wp2
  go_ret
  exact ⟨rfl, rfl⟩

set_option maxHeartbeats 400000 in
theorem copy_some (x : Addr) (cap : Nat) (zs : List Int) (w : World) (hr : Reads w (some x) zs.length (fun i => zs.getD i 0)) (hl : zs.length ≤ 131072) :
    Calls Try.prog 8 #[.slice (some x) zs.length cap] w fun e w' => e = .returned (.slice (some ⟨w.heap.size, 0, none⟩) zs.length zs.length) ∧ Blk w' w.heap.size zs ∧ Below w.heap.size w w' ∧ w'.heap.size = w.heap.size + 1 := by
  have HR : Hid (Reads w (some x) zs.length (fun i => zs.getD i 0)) := hr
  clear hr
  have heq := fun w => Lib.run_eql_slice_nil (P := Try.prog) w 22 3 (some x) zs.length cap 0 0 Try.underlying22
  obtain ⟨n, hn⟩ : ∃ n, n = zs.length := ⟨_, rfl⟩
  have HN : Hid (n = zs.length) := hn
  rw [← hn] at hl heq ⊢
  clear hn
  have hmk := fun w => run_make_row' (P := Try.prog) 22 3 (.int .i64 0) 8 Try.underlying22 info3 rfl .i64 .i64 n (by omega) (by omega) w
  go_enter Try.func8, Try.ntmps8
  go_wp2
  clear hmk heq
  go_loopw [4] (fun i wr => ∃ k : Nat, k ≤ n ∧ i = .int .i64 k ∧ Blk wr w.heap.size (part zs k) ∧ Below w.heap.size w wr ∧ wr.heap.size = w.heap.size + 1) (fun i _ => n - (intOf i).toNat)
  case atStart =>
    refine ⟨0, by omega, rfl, ?_, (Below.refl _ _).alloc (Nat.le_refl _) _, by simp⟩
    have := Blk.made w n
    rw [HN.out] at this ⊢
    simpa [part] using this
  case round =>
    obtain ⟨k, hk, rfl, hb, hbel, hsz⟩ := hrel
    by_cases hlt : k < n
    · obtain ⟨b, off, hx, hc⟩ := HR.out (by have := HN.out; omega)
      obtain rfl : x = ⟨b, off, none⟩ := by simpa using hx
      clear hx
      obtain ⟨z, hz⟩ : ∃ z, z = zs.getD k 0 := ⟨_, rfl⟩
      have hcell0 := hc k (by have := HN.out; omega)
      have hbw : b < w.heap.size := World.block_lt_of_cell? _ _ hcell0
      have hcell : wr.cell? ⟨b, off + k, none⟩ = some (.int .i64 z) := by
        rw [hbel.cell (by exact hbw), hz]; exact hcell0
      have hset := hb.set k z
      have HS : Hid (Blk (wr.setCell ⟨w.heap.size, k, none⟩ (.int .i64 z)) w.heap.size (part zs (k + 1))) := by
        rw [hz, part_set zs k (by have := HN.out; omega)] at hset
        rw [hz]; exact hset
      have HB : Hid (Below w.heap.size w (wr.setCell ⟨w.heap.size, k, none⟩ (.int .i64 z))) := hbel.setCell (by exact Nat.le_refl _) _
      have HZ : Hid (wr.heap.size = w.heap.size + 1) := hsz
      have hold := hb.cell k (by rw [part_len zs k (by have := HN.out; omega)]; have := HN.out; omega)
      have hfree := hb.free k
      clear hset hz hc hcell0 hb hbel hsz
      go_wp2
      go_roundw
      case rel => exact ⟨k + 1, by omega, by go_num, HS.out, HB.out, by rw [World.size_setCell]; exact HZ.out⟩
      case measure => simp [intOf]; omega
    · obtain rfl : k = n := by omega
      have HB : Hid (Blk wr w.heap.size (part zs k)) := hb
      have HL : Hid (Below w.heap.size w wr) := hbel
      have HZ : Hid (wr.heap.size = w.heap.size + 1) := hsz
      clear hb hbel hsz
      go_wp2
      go_ret
      have h1 := HB.out
      rw [HN.out, part_end] at h1
      exact ⟨rfl, h1, HL.out, HZ.out⟩
end Go.Proofs.Qxb6602961a.W
