import Derived.Test.Qxb6602674aRows
import Derived.WalkKit
import Derived.WalkSpells
import Derived.WalkLawsBesides
import Derived.Laws.Shifts
namespace Go.Proofs.Qxb6602674a.FirstW
open Go.RowKit
set_option linter.unusedVariables false

/-- how many whole subtrees of 256^L leaves a tree of S leaves holds -/
def cnt (S L : Int) : Int := S / 256 ^ L.toNat

theorem cnt_nonneg (S L : Int) (h : 0 ≤ S) : 0 ≤ cnt S L := by
  unfold cnt; exact Int.ediv_nonneg h (Int.pow_nonneg (by omega))

theorem cnt_le (S L : Int) (h : 0 ≤ S) : cnt S L ≤ S := by
  unfold cnt
  exact Int.ediv_le_self _ h

theorem cnt_zero (S : Int) : cnt S 0 = S := by simp [cnt]

theorem cnt_succ (S : Int) (k : Nat) : cnt S (k : Int) / 256 = cnt S ((k : Int) + 1) := by
  unfold cnt
  rw [Int.ediv_ediv_of_nonneg (Int.pow_nonneg (by omega))]
  have : ((k : Int) + 1).toNat = k + 1 := by omega
  rw [this, Int.toNat_natCast, Int.pow_succ]

theorem shift_cnt (S L : Int) (hL0 : 0 ≤ L) (hL1 : L ≤ 63) (hS0 : 0 ≤ S) (hS1 : S ≤ 18446744073709551615) :
    Op.shift .shr .u64 S .u64 (L * 8) = pure (.int .u64 (cnt S L)) := by
  rw [shift_shr_any _ _ _ _ (by omega)]
  have e : S / 2 ^ min (L * 8).toNat IntKind.u64.bits = cnt S L := by
    unfold cnt
    have hb : IntKind.u64.bits = 64 := rfl
    rw [hb]
    have e8 : (256 : Int) ^ L.toNat = 2 ^ (L * 8).toNat := by
      have : (L * 8).toNat = 8 * L.toNat := by omega
      rw [this, Int.pow_mul]; rfl
    rw [e8]
    by_cases h : (L * 8).toNat ≤ 64
    · rw [Nat.min_eq_left h]
    · rw [Nat.min_eq_right (by omega)]
      have h1 : S / 2 ^ 64 = 0 := Int.ediv_eq_zero_of_lt hS0 (by omega)
      have h2 : S / 2 ^ (L * 8).toNat = 0 := by
        apply Int.ediv_eq_zero_of_lt hS0
        have : (2 : Int) ^ 64 ≤ 2 ^ (L * 8).toNat := by
          have := Nat.pow_le_pow_right (n := 2) (by omega) (show 64 ≤ (L * 8).toNat by omega)
          exact_mod_cast this
        omega
      rw [h1, h2]
  rw [e]


set_option maxHeartbeats 400000 in
theorem first_hold (L I W S C : Int) (en : Bool) (w : World) (hL0 : 0 ≤ L) (hL1 : L ≤ 63) (hW0 : 1 ≤ W) (hW1 : W ≤ 256) (hI0 : 0 ≤ I) (hI1 : I ≤ 18446744073709551615)
    (hsh : Op.shift .shr .u64 S .u64 (L * 8) = pure (.int .u64 C)) (hC0 : W ≤ C) (hC1 : C ≤ 18446744073709551615) (hI : I ≤ (C - W) / 256) :
    Calls Try.prog 9 #[.agg #[.int .i64 L, .int .u64 I, .int .i64 W, .bool en], .int .u64 S] w fun e w' => e = .returned (.tuple #[.agg #[.int .u8 (L * 8 % 256), .int .u64 (I * 256)], .bool true]) ∧ Grown w w' := by
  go_enter Try.func9, Try.ntmps9
  go_wp2
  exact bodyPost_ret (v := .tuple #[.agg #[.int .u8 (L * 8 % 256), .int .u64 (I * 256)], .bool true]) (by simp [results, Try.results9, go_sem]) rfl ⟨rfl, by repeat (first | exact Grown.refl _ | apply Grown.drew | apply Grown.alloc)⟩

set_option maxHeartbeats 400000 in
theorem first_ref1 (L I W S C : Int) (en : Bool) (w : World) (hL0 : 0 ≤ L) (hL1 : L ≤ 63) (hW0 : 1 ≤ W) (hW1 : W ≤ 256)
    (hsh : Op.shift .shr .u64 S .u64 (L * 8) = pure (.int .u64 C)) (hC0 : C < W)  :
    Calls Try.prog 9 #[.agg #[.int .i64 L, .int .u64 I, .int .i64 W, .bool en], .int .u64 S] w fun e w' => e = .returned (.tuple #[.agg #[.int .u8 0, .int .u64 0], .bool false]) ∧ Grown w w' := by
  go_enter Try.func9, Try.ntmps9
  go_wp2
  exact bodyPost_ret (v := .tuple #[.agg #[.int .u8 0, .int .u64 0], .bool false]) (by simp [results, Try.results9, go_sem]) rfl ⟨rfl, by repeat (first | exact Grown.refl _ | apply Grown.drew | apply Grown.alloc)⟩

set_option maxHeartbeats 400000 in
theorem first_ref2 (L I W S C : Int) (en : Bool) (w : World) (hL0 : 0 ≤ L) (hL1 : L ≤ 63) (hW0 : 1 ≤ W) (hW1 : W ≤ 256) (hI0 : 0 ≤ I) (hI1 : I ≤ 18446744073709551615)
    (hsh : Op.shift .shr .u64 S .u64 (L * 8) = pure (.int .u64 C)) (hC0 : W ≤ C) (hC1 : C ≤ 18446744073709551615) (hI : (C - W) / 256 < I)  :
    Calls Try.prog 9 #[.agg #[.int .i64 L, .int .u64 I, .int .i64 W, .bool en], .int .u64 S] w fun e w' => e = .returned (.tuple #[.agg #[.int .u8 0, .int .u64 0], .bool false]) ∧ Grown w w' := by
  go_enter Try.func9, Try.ntmps9
  go_wp2
  exact bodyPost_ret (v := .tuple #[.agg #[.int .u8 0, .int .u64 0], .bool false]) (by simp [results, Try.results9, go_sem]) rfl ⟨rfl, by repeat (first | exact Grown.refl _ | apply Grown.drew | apply Grown.alloc)⟩

set_option maxHeartbeats 400000 in
theorem first_out (L I W S : Int) (en : Bool) (w : World) (h : L < 0 ∨ (0 ≤ L ∧ 63 < L) ∨ (0 ≤ L ∧ L ≤ 63 ∧ W < 1) ∨ (0 ≤ L ∧ L ≤ 63 ∧ 1 ≤ W ∧ 256 < W)) :
    Calls Try.prog 9 #[.agg #[.int .i64 L, .int .u64 I, .int .i64 W, .bool en], .int .u64 S] w fun e w' => e = .returned (.tuple #[.agg #[.int .u8 0, .int .u64 0], .bool false]) ∧ Grown w w' := by
  rcases h with h | ⟨h, h1⟩ | ⟨h, h1, h2⟩ | ⟨h, h1, h2, h3⟩
  all_goals
    go_enter Try.func9, Try.ntmps9
    go_wp2
    exact bodyPost_ret (v := .tuple #[.agg #[.int .u8 0, .int .u64 0], .bool false]) (by simp [results, Try.results9, go_sem]) rfl ⟨rfl, by repeat (first | exact Grown.refl _ | apply Grown.drew | apply Grown.alloc)⟩

end Go.Proofs.Qxb6602674a.FirstW
