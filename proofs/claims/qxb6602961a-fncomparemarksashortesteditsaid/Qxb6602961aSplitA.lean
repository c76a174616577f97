import Derived.Test.Qxb6602961aMem
import Derived.Test.Qxb6602961aInv
namespace Go.Proofs.Qxb6602961a.W
open Go.RowKit Myers
set_option linter.unusedVariables false

set_option maxHeartbeats 400000 in
theorem diag_any (lo hi first last : Int) (w : World) (h1 : -100000 ≤ lo) (h2 : lo ≤ 100000) (h3 : -100000 ≤ hi) (h4 : hi ≤ 100000) (h5 : -100000 ≤ first) (h6 : first ≤ 100000) (h7 : -100000 ≤ last) (h8 : last ≤ 100000) :
    Calls Try.prog 23 #[.int .i64 lo, .int .i64 hi, .int .i64 first, .int .i64 last] w fun e w' => e = .returned (.tuple #[.int .i64 (dlo lo first), .int .i64 (dhi hi last)]) ∧ w' = w := by
  by_cases c1 : lo < first
  · by_cases c2 : last < hi
    · rw [dlo, if_pos c1, dhi, if_pos c2]
      go_enter Try.func23, Try.ntmps23
      go_wp2
      go_ret2
      exact ⟨rfl, rfl⟩
    · rw [dlo, if_pos c1, dhi, if_neg c2]
      go_enter Try.func23, Try.ntmps23
      go_wp2
      go_ret2
      exact ⟨rfl, rfl⟩
  · by_cases c2 : last < hi
    · rw [dlo, if_neg c1, dhi, if_pos c2]
      go_enter Try.func23, Try.ntmps23
      go_wp2
      go_ret2
      exact ⟨rfl, rfl⟩
    · rw [dlo, if_neg c1, dhi, if_neg c2]
      go_enter Try.func23, Try.ntmps23
      go_wp2
      go_ret2
      exact ⟨rfl, rfl⟩

/-- all memory but the blocks F and G is as it was -/
structure Same2 (F G : Nat) (w w' : World) : Prop where
  os : w'.os = w.os
  tape : w'.tape = w.tape
  output : w'.output = w.output
  size : w'.heap.size = w.heap.size
  block : ∀ k, k ≠ F → k ≠ G → w'.heap[k]? = w.heap[k]?
theorem Same2.refl (F G : Nat) (w : World) : Same2 F G w w := ⟨rfl, rfl, rfl, rfl, fun _ _ _ => rfl⟩
theorem Same2.trans {F G : Nat} {a b c : World} (h : Same2 F G a b) (k : Same2 F G b c) : Same2 F G a c :=
  ⟨k.os.trans h.os, k.tape.trans h.tape, k.output.trans h.output, k.size.trans h.size, fun i h1 h2 => (k.block i h1 h2).trans (h.block i h1 h2)⟩
theorem Same2.drewN {F G : Nat} {a w : World} (h : Same2 F G a w) (n : Nat) : Same2 F G a (w.drewN n) := ⟨h.os, h.tape, h.output, h.size, h.block⟩
theorem Same2.setCell {F G : Nat} {a w : World} (h : Same2 F G a w) {p : Addr} (hp : p.block = F ∨ p.block = G) (u : Value) : Same2 F G a (w.setCell p u) :=
  h.trans ⟨rfl, rfl, rfl, by simp [World.setCell], fun k h1 h2 => Below.heap_setCell _ _ _ _ (by rcases hp with e | e <;> rw [e] <;> assumption)⟩
theorem Same2.cell {F G : Nat} {w w' : World} (h : Same2 F G w w') {p : Addr} (h1 : p.block ≠ F) (h2 : p.block ≠ G) : w'.cell? p = w.cell? p := World.cell?_of_block (w := w) (h.block p.block h1 h2)

end Go.Proofs.Qxb6602961a.W
