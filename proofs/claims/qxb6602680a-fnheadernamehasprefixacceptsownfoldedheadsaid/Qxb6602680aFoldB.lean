import Derived.Test.Qxb6602680aFoldA
namespace Go.Proofs.Qxb6602680a.FoldW
open Go.RowKit
set_option linter.unusedVariables false

set_option maxHeartbeats 400000 in
theorem walk_long (s : ByteArray) (k : Int) (w : World) (hm : s.size ≤ 9223372036854775807) (h : 524288 < s.size) :
    Calls Try.prog 4 #[.string s, .int .i64 k] w fun e w' => e = .returned (.bool true) ∧ Grown w w' := by
  by_cases h : s.size ≤ 1048576
  all_goals
    go_enter Try.func4, Try.ntmps4
    go_wp2
    go_ret
    exact ⟨rfl, Grown.refl _⟩

set_option maxHeartbeats 400000 in
theorem walk_off (s : ByteArray) (k : Int) (w : World) (h : s.size ≤ 524288) (hk : k < 0 ∨ (0 ≤ k ∧ (s.size : Int) < k)) :
    Calls Try.prog 4 #[.string s, .int .i64 k] w fun e w' => e = .returned (.bool true) ∧ Grown w w' := by
  rcases hk with hk | ⟨hk, hk2⟩
  all_goals
    go_enter Try.func4, Try.ntmps4
    go_wp2
    go_ret
    exact ⟨rfl, Grown.refl _⟩

theorem size_cut (s : ByteArray) (k : Nat) (h : k ≤ s.size) : (s.extract 0 k).size = k := by simp; omega
theorem get_cut (s : ByteArray) (k i : Nat) (h : i < (s.extract 0 k).size) (h' : i < s.size) : (s.extract 0 k)[i] = s[i] := by
  simp [ByteArray.getElem_extract]

set_option maxHeartbeats 400000 in
theorem walk_in (s : ByteArray) (k : Nat) (w : World) (h : s.size ≤ 524288) (hk : k ≤ s.size) :
    Calls Try.prog 4 #[.string s, .int .i64 k] w fun e w' => e = .returned (.bool true) ∧ Grown w w' := by
  have hsz := size_cut s k hk
  have F : Hid (∀ w, Calls Try.prog 7 #[.string (s.extract 0 k)] w fun e w' => e = .returned (.string (folded (s.extract 0 k))) ∧ Grown w w') := fun w => fold_any _ w (by omega)
  have hfs := folded_size (s.extract 0 k)
  have HG : Hid (∀ i (h1 : i < (folded (s.extract 0 k)).size) (h2 : i < s.size), ((folded (s.extract 0 k))[i].toNat : Int) = fb (s[i].toNat : Int)) := fun i h1 h2 => by
    rw [folded_get _ i h1 (by omega), get_cut s k i (by omega) h2]
  rw [hsz] at hfs
  clear hsz
  obtain ⟨p, hp⟩ : ∃ p, p = folded (s.extract 0 k) := ⟨_, rfl⟩
  rw [← hp] at F HG hfs
  clear hp
  have A1 : Hid (∀ w, Calls Try.prog 6 #[.string s, .string p] w fun e w' => e = .returned (.bool true) ∧ w' = w) := fun w => has_yes s p w (by omega) (by omega) HG.out
  have A2 : Hid (∀ w, Calls Try.prog 6 #[.string s, .string (p.extract 0 (k / 2))] w fun e w' => e = .returned (.bool true) ∧ w' = w) := fun w => has_yes s _ w (by omega) (by have := size_cut p (k / 2) (by omega); omega) (fun i h1 h2 => by
    have := size_cut p (k / 2) (by omega)
    rw [get_cut p (k / 2) i h1 (by omega)]
    exact HG.out i (by omega) h2)
  go_enter Try.func4, Try.ntmps4
  go_wp2_with (first | (go_at_call 8; go_in) | fail)
  refine (F.out _).mono ?_
  rintro e w1 ⟨rfl, hg⟩
  go_wp2_with fail
  refine (A1.out _).mono ?_
  rintro e w2 ⟨rfl, rfl⟩
  go_wp2_with fail
  refine (A2.out _).mono ?_
  rintro e w3 ⟨rfl, rfl⟩
  have HGr : Hid (Grown w w3) := hg
  clear hg F A1 A2 HG
  by_cases h0 : 0 < k
  · have A3 : Hid (∀ w, Calls Try.prog 6 #[.string (s.extract 0 (k - 1)), .string p] w fun e w' => e = .returned (.bool false) ∧ w' = w) := fun w => by
      have := size_cut s (k - 1) (by omega)
      exact has_short _ p w (by omega) (by omega) (by omega)
    go_wp2_with fail
    refine (A3.out _).mono ?_
    rintro e w4 ⟨rfl, rfl⟩
    go_wp2
    go_ret
    exact ⟨rfl, HGr.out⟩
  · go_wp2
    go_ret
    exact ⟨rfl, HGr.out⟩
end Go.Proofs.Qxb6602680a.FoldW
