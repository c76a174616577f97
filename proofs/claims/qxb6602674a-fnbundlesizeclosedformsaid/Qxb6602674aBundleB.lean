import Derived.Test.Qxb6602674aBundleA
namespace Go.Proofs.Qxb6602674a.BundleW
open Go.RowKit
set_option linter.unusedVariables false

set_option maxHeartbeats 400000 in
/-- where the two bounds hold: cloneInts, the law's own sum, BundleSize -/
theorem walk_in (a0 : Option Addr) (cap0 : Nat) (zs : List Int) (w : World) (hl : zs.length ≤ 131072) (a1 : Option Addr) (c1 : Nat)
    (C : Calls Try.prog 12 #[.slice a0 zs.length cap0] w fun e w' => e = .returned (.slice a1 zs.length c1) ∧ Reads w' a1 zs ∧ Below w.heap.size w w') :
    Calls Try.prog 6 #[.slice a0 zs.length cap0] w fun e w' => e = .returned (.bool true) ∧ Below w.heap.size w w' := by
  have C' : Hid (Calls Try.prog 12 #[.slice a0 zs.length cap0] w fun e w' => e = .returned (.slice a1 zs.length c1) ∧ Reads w' a1 zs ∧ Below w.heap.size w w') := C
  clear C
  have S' : Hid (∀ (w : World), Reads w a1 zs → Calls Try.prog 13 #[.slice a1 zs.length c1] w fun e w' => e = .returned (.int .i64 (wrap64 (tot zs zs.length + 2 * zs.length))) ∧ w' = w) := fun w hr => size_any a1 c1 zs w hr hl
  obtain ⟨n, hn⟩ : ∃ n, n = zs.length := ⟨_, rfl⟩
  have HN : Hid (n = zs.length) := hn
  rw [← hn] at hl C' S' ⊢
  clear hn
  go_enter Try.func6, Try.ntmps6
  go_wp2_with (first | (go_at_call 11; go_in) | fail)
  refine C'.out.mono ?_
  rintro e w1 ⟨rfl, hr, hb⟩
  have HR : Hid (Reads w1 a1 zs) := hr
  have HB : Hid (Below w.heap.size w w1) := hb
  clear hr hb C'
  go_wp2_with fail
  go_loop [3, 4] (fun s i => ∃ k : Nat, k ≤ n ∧ i = .int .i64 k ∧ s = .int .i64 (wrap64 (tot zs k))) (fun _ i => n - (intOf i).toNat)
  case atStart => exact ⟨0, by omega, rfl, start_tot1 zs⟩
  case round =>
    obtain ⟨k, hk, rfl, rfl⟩ := hrel
    by_cases hlt : k < n
    · obtain ⟨b, off, rfl, hc⟩ := HR.out (by have := HN.out; omega)
      obtain ⟨z, hz⟩ : ∃ z, z = zs.getD k 0 := ⟨_, rfl⟩
      have hcell := hc k (by have := HN.out; omega)
      rw [← hz] at hcell
      have HS : Hid (tot zs (k + 1) = tot zs k + z) := by rw [hz]; exact tot_succ zs k (by have := HN.out; omega)
      clear hz hc
      go_wp2
      go_round
      case rel => exact ⟨k + 1, by omega, by go_num, by rw [wrap_step1, HS.out]⟩
      case measure => simp [intOf]; omega
    · obtain rfl : k = n := by omega
      go_wp2_with fail
      refine (S'.out _ HR.out).mono ?_
      rintro e w2 ⟨rfl, rfl⟩
      rw [wrap_end]
      go_wp2
      go_ret
      exact ⟨by simp, HB.out⟩

set_option maxHeartbeats 400000 in
/-- a slice that is too long: the law says true at once -/
theorem walk_long (a0 : Option Addr) (len cap0 : Nat) (w : World) (hm : len ≤ 9223372036854775807) (hl : 131072 < len) :
    Calls Try.prog 6 #[.slice a0 len cap0] w fun e w' => e = .returned (.bool true) ∧ Below w.heap.size w w' := by
  by_cases h : len ≤ 1048576
  · go_enter Try.func6, Try.ntmps6
    go_wp2
    go_ret
    exact ⟨rfl, Below.refl _ _⟩
  · go_enter Try.func6, Try.ntmps6
    go_wp2
    go_ret
    exact ⟨rfl, Below.refl _ _⟩

end Go.Proofs.Qxb6602674a.BundleW
