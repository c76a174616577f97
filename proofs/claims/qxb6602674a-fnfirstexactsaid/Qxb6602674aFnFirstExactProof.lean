/- FnFirstExact: the tool's shell, its hole filled. -/
import Derived.Test.Qxb6602674aRows
import Derived.Test.Qxb6602674aFirstB
import Derived.WalkKit
import Derived.ProofKit
import Derived.OpenShut
import Derived.ShutString
namespace Go.Proofs.Qxb6602674a.fnFirstExact
open Go.ChangeShapes Go.WideShapes Go.ChangeAt Go.RowKit
open Go.ChangeMaps (open_string shut_string)
set_option linter.unusedVariables false      -- a walk need not use every 'w<i>' (that an integer argument fits its kind)

theorem own : ownKnob Try.prog.godebug = none := by kernel_rfl

theorem grown_trans {a b c : World} (h : Grown a b) (k : Grown b c) : Grown a c :=
  ⟨World.keptBut_trans h.1 k.1, fun x => (k.2.1 x).trans (h.2.1 x), Nat.le_trans h.2.2 k.2.2⟩

/-- where First answers (lv, ix, ok) and the model (ok, lv, ix), the law returns true -/
theorem walk_of (a0 : Int) (a1 : Int) (a2 : Int) (a3 : Bool) (a4 : Int) (lv ix : Int) (ok : Bool) (w : World)
    (F : ∀ w : World, Calls Try.prog 9 #[.agg #[.int .i64 a0, .int .u64 a1, .int .i64 a2, .bool a3], .int .u64 a4] w fun e w' => e = .returned (.tuple #[.agg #[.int .u8 lv, .int .u64 ix], .bool ok]) ∧ Grown w w')
    (M : ∀ w : World, Calls Try.prog 10 #[.int .i64 a0, .int .u64 a1, .int .i64 a2, .int .u64 a4] w fun e w' => e = .returned (.tuple #[.bool ok, .int .u8 lv, .int .u64 ix]) ∧ w' = w) :
    Calls Try.prog 3 #[.int .i64 a0, .int .u64 a1, .int .i64 a2, .bool a3, .int .u64 a4] w fun e w' => e = .returned (.bool true) ∧ Grown w w' := by
  have F' : Hid (∀ w : World, Calls Try.prog 9 #[.agg #[.int .i64 a0, .int .u64 a1, .int .i64 a2, .bool a3], .int .u64 a4] w fun e w' => e = .returned (.tuple #[.agg #[.int .u8 lv, .int .u64 ix], .bool ok]) ∧ Grown w w') := F
  have M' : Hid (∀ w : World, Calls Try.prog 10 #[.int .i64 a0, .int .u64 a1, .int .i64 a2, .int .u64 a4] w fun e w' => e = .returned (.tuple #[.bool ok, .int .u8 lv, .int .u64 ix]) ∧ w' = w) := M
  clear F M
  go_enter Try.func3, Try.ntmps3
  go_wp2_with fail
  refine (F'.out _).mono ?_
  rintro e w1 ⟨rfl, hg⟩
  go_wp2_with fail
  refine (M'.out _).mono ?_
  rintro e w2 ⟨rfl, rfl⟩
  go_wp2
  go_ret
  exact ⟨rfl, ((grown_trans ((Grown.refl w).alloc _ _) hg).alloc _ _)⟩

theorem walk (a0 : Int) (a1 : Int) (a2 : Int) (a3 : Bool) (a4 : Int) (w0 : (Lit.int .i64 a0).wf = true) (w1 : (Lit.int .u64 a1).wf = true) (w2 : (Lit.int .i64 a2).wf = true) (w4 : (Lit.int .u64 a4).wf = true) (w : World) :
    Calls Try.prog 3 #[.int .i64 a0, .int .u64 a1, .int .i64 a2, .bool a3, .int .u64 a4] w fun e w' => e = .returned (.bool true) ∧ Grown w w' := by
  have b1 := bounds_u64 w1
  have b4 := bounds_u64 w4
  by_cases hin : 0 ≤ a0 ∧ a0 ≤ 63 ∧ 1 ≤ a2 ∧ a2 ≤ 256
  · obtain ⟨hL0, hL1, hW0, hW1⟩ := hin
    have hsh := FirstW.shift_cnt a4 a0 hL0 hL1 (by omega) (by omega)
    have hc0 := FirstW.cnt_nonneg a4 a0 (by omega)
    have hc1 := FirstW.cnt_le a4 a0 (by omega)
    by_cases hh : a1 * 256 + a2 ≤ FirstW.cnt a4 a0
    · exact walk_of a0 a1 a2 a3 a4 _ _ _ w
        (fun w => FirstW.first_hold a0 a1 a2 a4 _ a3 w hL0 hL1 hW0 hW1 (by omega) (by omega) hsh (by omega) (by omega) (by omega))
        (fun w => FirstW.model_hold a0 a1 a2 a4 w hL0 hL1 hW0 hW1 (by omega) (by omega) (by omega) (by omega) hh)
    · have M := fun w => FirstW.model_ref a0 a1 a2 a4 w hL0 hL1 hW0 hW1 (by omega) (by omega) (by omega) (by omega) (by omega)
      by_cases hC : FirstW.cnt a4 a0 < a2
      · exact walk_of a0 a1 a2 a3 a4 _ _ _ w (fun w => FirstW.first_ref1 a0 a1 a2 a4 _ a3 w hL0 hL1 hW0 hW1 hsh hC) M
      · exact walk_of a0 a1 a2 a3 a4 _ _ _ w
          (fun w => FirstW.first_ref2 a0 a1 a2 a4 _ a3 w hL0 hL1 hW0 hW1 (by omega) (by omega) hsh (by omega) (by omega) (by omega)) M
  · have h : a0 < 0 ∨ (0 ≤ a0 ∧ 63 < a0) ∨ (0 ≤ a0 ∧ a0 ≤ 63 ∧ a2 < 1) ∨ (0 ≤ a0 ∧ a0 ≤ 63 ∧ 1 ≤ a2 ∧ 256 < a2) := by omega
    exact walk_of a0 a1 a2 a3 a4 _ _ _ w (fun w => FirstW.first_out a0 a1 a2 a4 a3 w h) (fun w => FirstW.model_out a0 a1 a2 a4 w h)

/-! ### THE ROW's STEP: WRITTEN OUT: LEAVE IT -/
set_option maxRecDepth 100000 in
theorem lifted (os : Os) (started : os.Started) (H : Type) (enc : TypeId × Value → H) :
    ReturnsInHanded {} Try.checked os 3 .any (Rows.fnFirstExactSpec.pre6 enc Try.prog Try.f3 Rows.fnFirstExactRow.domain false) (Rows.fnFirstExactSpec.post enc Try.prog Try.f3 false true false false) := by
  refine returnsInHanded_of_change (C := Try.checked) own started (by kernel_rfl) Try.func3
    (ChangeSpec.witness6 (enc := enc) (C := Try.checked) false ⟨#[], #[.int .i64 0, .int .u64 0, .int .i64 0, .bool false, .int .u64 0], []⟩ 8 (by kernel_rfl) (by kernel_rfl) (by kernel_rfl) (by kernel_rfl)) ?_
  intro W base args ds gs before hval0 hW hcnd _
  have hval : ∀ (j : Nat) t v, Try.f3.params[j]? = some t → args[j]? = some v → Value.okWide Try.prog W .any base t v := hval0
  have hW' := hW
  obtain ⟨p, q, hA0, hV, rfl, hfz, hnd⟩ := hW
  have hA : DataW.TrodAll enc Try.prog W 0 (fun _ => true) true Try.f3.params.toList args.toList ds p := hA0
  rw [Try.params3] at hA hval
  obtain ⟨v0, vs0, d0, ds0, p0, q0, hargs, rfl, rfl, h0, r0⟩ := trodAll_cons hA
  obtain ⟨v1, vs1, d1, ds1, p1, q1, rfl, rfl, rfl, h1, r1⟩ := trodAll_cons r0
  obtain ⟨v2, vs2, d2, ds2, p2, q2, rfl, rfl, rfl, h2, r2⟩ := trodAll_cons r1
  obtain ⟨v3, vs3, d3, ds3, p3, q3, rfl, rfl, rfl, h3, r3⟩ := trodAll_cons r2
  obtain ⟨v4, vs4, d4, ds4, p4, q4, rfl, rfl, rfl, h4, r4⟩ := trodAll_cons r3
  obtain ⟨rfl, rfl, rfl⟩ := trodAll_nil r4
  obtain rfl : args = #[v0, v1, v2, v3, v4] := by cases args; simp_all
  obtain ⟨rfl, rfl⟩ := trodVars_none hV
  obtain ⟨a0, rfl, rfl, rfl, w0⟩ := open_int Try.underlying3 (hval 0 3 v0 rfl rfl) h0
  obtain ⟨a1, rfl, rfl, rfl, w1⟩ := open_int Try.underlying22 (hval 1 22 v1 rfl rfl) h1
  obtain ⟨a2, rfl, rfl, rfl, w2⟩ := open_int Try.underlying3 (hval 2 3 v2 rfl rfl) h2
  obtain ⟨a3, rfl, rfl, rfl⟩ := open_bool Try.underlying4 (hval 3 4 v3 rfl rfl) h3
  obtain ⟨a4, rfl, rfl, rfl, w4⟩ := open_int Try.underlying22 (hval 4 22 v4 rfl rfl) h4
  clear hA0 hval0
  simp only [List.append_nil] at hW'
  refine (walk a0 a1 a2 a3 a4 w0 w1 w2 w4 W).mono fun e W' ⟨he, hg⟩ => ?_
  subst he
  exact ⟨_, rfl, post_of_same (pa := []) (pv := []) hW' (fun _ _ _ => (trodAll_cons_mk (shut_bool Try.underlying4 _) trodAll_mk0)) (fun sp _ => (trodAll_cons_mk (shut_int Try.underlying3 w0) (trodAll_cons_mk (shut_int Try.underlying22 w1) (trodAll_cons_mk (shut_int Try.underlying3 w2) (trodAll_cons_mk (shut_bool Try.underlying4 _) (trodAll_cons_mk (shut_int Try.underlying22 w4) trodAll_mk0)))))) (fun _ _ => rfl) rfl
    (hg.frame _) hg.2.1 (ok_one (by kernel_rfl) rfl (okWide_bool_mk Try.underlying4 _))⟩

theorem over : Rows.fnFirstExactRow.holds Try.pinned (OpenSpec.ofChange Rows.fnFirstExactSpec) :=
  OpenClaim.holds_of_wide 3 Try.f3 rfl rfl rfl rfl rfl rfl rfl ⟨rfl, rfl, rfl, rfl, rfl⟩ rfl rfl rfl rfl rfl (by kernel_rfl) Try.func3 (by kernel_rfl)
    (of_decide_eq_true (by kernel_rfl)) (by unfold Func.isWrapper; first | (rw [if_pos (by decide +kernel)]; kernel_rfl) | (rw [if_neg (by decide +kernel)]; exact ⟨rfl, rfl⟩))
    (fun os started H enc _ => lifted os started H enc)

/-- ████ THE STATEMENT ████ -/
theorem proved : Rows.FnFirstExactSaid :=
  over
end Go.Proofs.Qxb6602674a.fnFirstExact
