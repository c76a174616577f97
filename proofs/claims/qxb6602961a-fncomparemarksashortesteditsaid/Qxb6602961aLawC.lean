/- FnCompareMarksAShortestEdit, walked: the ways that say true at once. -/
import Derived.Test.Qxb6602961aMem
namespace Go.Proofs.Qxb6602961a.W
open Go.RowKit
set_option linter.unusedVariables false

set_option maxRecDepth 100000 in
set_option maxHeartbeats 1000000 in
theorem lawC_big (a b : Option Addr) (la ca lb cb : Nat) (a2 a3 a4 a5 : Int) (w : World) (m1 : la ≤ 9223372036854775807) (m2 : lb ≤ 9223372036854775807) (h : 1024 < la ∨ 1024 < lb) :
    Calls Try.prog 3 #[.slice a la ca, .slice b lb cb, .int .i64 a2, .int .i64 a3, .int .i64 a4, .int .i64 a5] w fun e w' => e = .returned (.bool true) ∧ Below w.heap.size w w' := by
  by_cases c1 : 1048576 < la
  · go_enter Try.func3, Try.ntmps3
    go_wp2
    go_ret
    exact ⟨rfl, Below.refl _ _⟩
  · by_cases c2 : 1048576 < lb
    · go_enter Try.func3, Try.ntmps3
      go_wp2
      go_ret
      exact ⟨rfl, Below.refl _ _⟩
    · by_cases c3 : 1048576 < la + lb
      · go_enter Try.func3, Try.ntmps3
        go_wp2
        go_ret
        exact ⟨rfl, Below.refl _ _⟩
      · by_cases c4 : 1024 < la
        · go_enter Try.func3, Try.ntmps3
          go_wp2
          go_ret
          exact ⟨rfl, Below.refl _ _⟩
        · have c5 : 1024 < lb := by omega
          go_enter Try.func3, Try.ntmps3
          go_wp2
          go_ret
          exact ⟨rfl, Below.refl _ _⟩

set_option maxRecDepth 100000 in
set_option maxHeartbeats 1000000 in
theorem lawC_rng (a b : Option Addr) (la ca lb cb : Nat) (a2 a3 a4 a5 : Int) (w : World) (m1 : la ≤ 1024) (m2 : lb ≤ 1024)
    (h : a2 < 0 ∨ (0 ≤ a2 ∧ a3 < a2) ∨ (0 ≤ a2 ∧ a2 ≤ a3 ∧ (la : Int) < a3) ∨ (0 ≤ a2 ∧ a2 ≤ a3 ∧ a3 ≤ la ∧ a4 < 0) ∨ (0 ≤ a2 ∧ a2 ≤ a3 ∧ a3 ≤ la ∧ 0 ≤ a4 ∧ a5 < a4) ∨ (0 ≤ a2 ∧ a2 ≤ a3 ∧ a3 ≤ la ∧ 0 ≤ a4 ∧ a4 ≤ a5 ∧ (lb : Int) < a5)) :
    Calls Try.prog 3 #[.slice a la ca, .slice b lb cb, .int .i64 a2, .int .i64 a3, .int .i64 a4, .int .i64 a5] w fun e w' => e = .returned (.bool true) ∧ Below w.heap.size w w' := by
  rcases h with h | ⟨h, h1⟩ | ⟨h, h1, h2⟩ | ⟨h, h1, h2, h3⟩ | ⟨h, h1, h2, h3, h4⟩ | ⟨h, h1, h2, h3, h4, h5⟩
  all_goals
    go_enter Try.func3, Try.ntmps3
    go_wp2
    go_ret
    exact ⟨rfl, Below.refl _ _⟩
end Go.Proofs.Qxb6602961a.W
