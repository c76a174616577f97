import Derived.Test.Qxb6602674aFirstA
import Derived.Laws.BitsAllLaws
namespace Go.Proofs.Qxb6602674a.FirstW
open Go.RowKit
set_option linter.unusedVariables false

theorem or_join (I V : Int) (hI0 : 0 ≤ I) (hI1 : I < 72057594037927936) (h0 : 0 ≤ V) (h1 : V < 256) : bits .or .u64 (I * 256) V = I * 256 + V := by
  rw [u64_or _ _ (by omega) (by omega) (by omega) (by omega), nat_join 8 _ _ (by omega) (by omega)]
  omega

set_option maxHeartbeats 400000 in
theorem model_out (L I W S : Int) (w : World) (h : L < 0 ∨ (0 ≤ L ∧ 63 < L) ∨ (0 ≤ L ∧ L ≤ 63 ∧ W < 1) ∨ (0 ≤ L ∧ L ≤ 63 ∧ 1 ≤ W ∧ 256 < W)) :
    Calls Try.prog 10 #[.int .i64 L, .int .u64 I, .int .i64 W, .int .u64 S] w fun e w' => e = .returned (.tuple #[.bool false, .int .u8 0, .int .u64 0]) ∧ w' = w := by
  rcases h with h | ⟨h, h1⟩ | ⟨h, h1, h2⟩ | ⟨h, h1, h2, h3⟩
  all_goals
    go_enter Try.func10, Try.ntmps10
    go_wp2
    go_ret3
    exact ⟨rfl, rfl⟩

theorem start_cnt (S : Int) : Value.int .u64 S = .int .u64 (cnt S ((0 : Nat) : Int)) := by
  rw [show ((0 : Nat) : Int) = 0 from rfl, cnt_zero]

set_option maxHeartbeats 400000 in
theorem model_hold (L I W S : Int) (w : World) (hL0 : 0 ≤ L) (hL1 : L ≤ 63) (hW0 : 1 ≤ W) (hW1 : W ≤ 256) (hI0 : 0 ≤ I) (hS0 : 0 ≤ S) (hI1 : I < 72057594037927936) (hS1 : S ≤ 18446744073709551615)
    (hh : I * 256 + W ≤ cnt S L) :
    Calls Try.prog 10 #[.int .i64 L, .int .u64 I, .int .i64 W, .int .u64 S] w fun e w' => e = .returned (.tuple #[.bool true, .int .u8 (L * 8 % 256), .int .u64 (I * 256)]) ∧ w' = w := by
  go_enter Try.func10, Try.ntmps10
  go_wp2
  go_loop [11, 12] (fun c i => ∃ k : Nat, (k : Int) ≤ L ∧ i = .int .i64 k ∧ c = .int .u64 (cnt S k)) (fun _ i => (L - intOf i).toNat)
  case atStart => exact ⟨0, by omega, rfl, start_cnt S⟩
  case round =>
    obtain ⟨k, hk, rfl, rfl⟩ := hrel
    have h0 := cnt_nonneg S k hS0
    have h1 := cnt_le S k hS0
    by_cases hlt : (k : Int) < L
    · go_wp2
      go_round
      case rel => exact ⟨k + 1, by omega, by go_num, by rw [cnt_succ]; rfl⟩
      case measure => simp [intOf]; omega
    · obtain rfl : L = k := by omega
      have hor := or_join I (W - 1) hI0 hI1 (by omega) (by omega)
      have hi : I / 72057594037927936 = 0 := by omega
      go_wp2
      go_ret3
      exact ⟨rfl, rfl⟩

set_option maxHeartbeats 400000 in
theorem model_ref (L I W S : Int) (w : World) (hL0 : 0 ≤ L) (hL1 : L ≤ 63) (hW0 : 1 ≤ W) (hW1 : W ≤ 256) (hI0 : 0 ≤ I) (hS0 : 0 ≤ S) (hI1 : I ≤ 18446744073709551615) (hS1 : S ≤ 18446744073709551615)
    (hh : cnt S L < I * 256 + W) :
    Calls Try.prog 10 #[.int .i64 L, .int .u64 I, .int .i64 W, .int .u64 S] w fun e w' => e = .returned (.tuple #[.bool false, .int .u8 0, .int .u64 0]) ∧ w' = w := by
  go_enter Try.func10, Try.ntmps10
  go_wp2
  go_loop [11, 12] (fun c i => ∃ k : Nat, (k : Int) ≤ L ∧ i = .int .i64 k ∧ c = .int .u64 (cnt S k)) (fun _ i => (L - intOf i).toNat)
  case atStart => exact ⟨0, by omega, rfl, start_cnt S⟩
  case round =>
    obtain ⟨k, hk, rfl, rfl⟩ := hrel
    have h0 := cnt_nonneg S k hS0
    have h1 := cnt_le S k hS0
    by_cases hlt : (k : Int) < L
    · go_wp2
      go_round
      case rel => exact ⟨k + 1, by omega, by go_num, by rw [cnt_succ]; rfl⟩
      case measure => simp [intOf]; omega
    · obtain rfl : L = k := by omega
      by_cases hI2 : I < 72057594037927936
      · have hor := or_join I (W - 1) hI0 hI2 (by omega) (by omega)
        have hi : I / 72057594037927936 = 0 := by omega
        go_wp2
        go_ret3
        exact ⟨rfl, rfl⟩
      · have hi : 0 < I / 72057594037927936 := by omega
        go_wp2
        go_ret3
        exact ⟨rfl, rfl⟩
end Go.Proofs.Qxb6602674a.FirstW
