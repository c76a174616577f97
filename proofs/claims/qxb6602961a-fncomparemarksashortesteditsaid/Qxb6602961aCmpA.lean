/- compare: what its walks say of memory. -/
import Derived.Test.Qxb6602961aSnake
import Derived.Test.Qxb6602961aSplitA
namespace Go.Proofs.Qxb6602961a.W
open Go.RowKit Myers
set_option linter.unusedVariables false

/-- A block of bools of the call's own. -/
def BBlk (w : World) (b : Nat) (bs : List Bool) : Prop := w.heap[b]? = some (.cells (bs.map Value.bool).toArray 4 (0, 0))
theorem BBlk.cell {w : World} {b : Nat} {bs : List Bool} (h : BBlk w b bs) (i : Nat) (hi : i < bs.length) : w.cell? ⟨b, i, none⟩ = some (.bool (bs.getD i false)) := by
  unfold BBlk at h
  simp [World.cell?, h, hi]
theorem BBlk.free {w : World} {b : Nat} {bs : List Bool} (h : BBlk w b bs) (i : Nat) : w.frozen? ⟨b, i, none⟩ = false := by
  unfold BBlk at h
  simp [World.frozen?, h]
theorem BBlk.lt {w : World} {b : Nat} {bs : List Bool} (h : BBlk w b bs) : b < w.heap.size := lt_of_block h
theorem BBlk.set {w : World} {b : Nat} {bs : List Bool} (h : BBlk w b bs) (i : Nat) (z : Bool) : BBlk (w.setCell ⟨b, i, none⟩ (.bool z)) b (bs.set i z) := by
  have hlt := h.lt
  unfold BBlk at h ⊢
  have h' : w.heap[b] = .cells (bs.map Value.bool).toArray 4 (0, 0) := by simpa [Array.getElem?_eq_getElem hlt] using h
  show (w.heap.modify b _)[b]? = _
  rw [Array.getElem?_eq_getElem (by simpa using hlt), Array.getElem_modify_self, h']
  simp [List.map_set]
theorem BBlk.other {w : World} {b : Nat} {bs : List Bool} (h : BBlk w b bs) {a : Addr} (ha : b ≠ a.block) (u : Value) : BBlk (w.setCell a u) b bs := by
  unfold BBlk at h ⊢
  rw [Below.heap_setCell _ _ _ _ ha]; exact h
theorem BBlk.alloc {w : World} {b : Nat} {bs : List Bool} (h : BBlk w b bs) (o : Obj) : BBlk (w.alloc o) b bs := by
  have hlt := h.lt
  unfold BBlk at h ⊢
  rw [Below.heap_alloc _ _ _ hlt]; exact h
theorem BBlk.drewN {w : World} {b : Nat} {bs : List Bool} (h : BBlk w b bs) (n : Nat) : BBlk (w.drewN n) b bs := h
theorem BBlk.drew {w : World} {b : Nat} {bs : List Bool} (h : BBlk w b bs) : BBlk w.drew b bs := h
theorem BBlk.below {w w' : World} {b B : Nat} {bs : List Bool} (h : BBlk w b bs) (hb : Below B w w') (hlt : b < B) : BBlk w' b bs := by
  unfold BBlk at h ⊢
  rw [hb.block b hlt]; exact h
theorem BBlk.still {w w' : World} {b : Nat} {bs : List Bool} (h : BBlk w b bs) (k : Still w w') : BBlk w' b bs := by unfold BBlk at h ⊢; rw [k.1]; exact h
theorem BBlk.made (w : World) (n : Nat) : BBlk (w.alloc (.cells (madeCells #[Value.bool false] n) 4)) w.heap.size (List.replicate n false) := by
  unfold BBlk
  rw [heap_alloc_new]
  congr 2
  apply Array.ext'
  simp only [madeCells, Array.toList_map, Array.toList_range, List.map_replicate, List.size_toArray, List.length_cons, List.length_nil, Nat.zero_add, Nat.mod_one]
  rw [List.eq_replicate_iff]
  simp

/-- all memory but block C is as it was -/
structure Same1 (C : Nat) (w w' : World) : Prop where
  os : w'.os = w.os
  tape : w'.tape = w.tape
  output : w'.output = w.output
  size : w'.heap.size = w.heap.size
  block : ∀ k, k ≠ C → w'.heap[k]? = w.heap[k]?
theorem Same1.refl (C : Nat) (w : World) : Same1 C w w := ⟨rfl, rfl, rfl, rfl, fun _ _ => rfl⟩
theorem Same1.trans {C : Nat} {a b c : World} (h : Same1 C a b) (k : Same1 C b c) : Same1 C a c :=
  ⟨k.os.trans h.os, k.tape.trans h.tape, k.output.trans h.output, k.size.trans h.size, fun i h1 => (k.block i h1).trans (h.block i h1)⟩
theorem Same1.setCell {C : Nat} {a w : World} (h : Same1 C a w) {p : Addr} (hp : p.block = C) (u : Value) : Same1 C a (w.setCell p u) :=
  h.trans ⟨rfl, rfl, rfl, by simp [World.setCell], fun k h1 => Below.heap_setCell _ _ _ _ (by rw [hp]; exact h1)⟩
theorem Same1.cell {C : Nat} {w w' : World} (h : Same1 C w w') {p : Addr} (h1 : p.block ≠ C) : w'.cell? p = w.cell? p := World.cell?_of_block (w := w) (h.block p.block h1)

/-- of the marks those of the rows from lo to hi alone may have turned -/
def Out (bs bs' : List Bool) (lo hi : Nat) : Prop := bs'.length = bs.length ∧ ∀ t, t < lo ∨ hi ≤ t → bs'.getD t false = bs.getD t false
theorem Out.refl (bs : List Bool) (lo hi : Nat) : Out bs bs lo hi := ⟨rfl, fun _ _ => rfl⟩
theorem Out.trans {a b c : List Bool} {lo hi : Nat} (h : Out a b lo hi) (k : Out b c lo hi) : Out a c lo hi := ⟨k.1.trans h.1, fun t ht => (k.2 t ht).trans (h.2 t ht)⟩
theorem Out.mono {a b : List Bool} {lo hi lo' hi' : Nat} (h : Out a b lo hi) (h1 : lo' ≤ lo) (h2 : hi ≤ hi') : Out a b lo' hi' := ⟨h.1, fun t ht => h.2 t (by omega)⟩
theorem Out.set (bs : List Bool) (i lo hi : Nat) (h1 : lo ≤ i) (h2 : i < hi) (z : Bool) : Out bs (bs.set i z) lo hi :=
  ⟨by simp, fun t ht => by have : i ≠ t := by omega
                           simp [this]⟩
theorem get_set_same (bs : List Bool) (i : Nat) (h : i < bs.length) (z : Bool) : (bs.set i z).getD i false = z := by simp [h]
theorem get_set_other (bs : List Bool) (i t : Nat) (h : i ≠ t) (z : Bool) : (bs.set i z).getD t false = bs.getD t false := by simp [h]
end Go.Proofs.Qxb6602961a.W
