import Derived.Test.Qxb6602916aRows
import Derived.WalkKit
import Derived.WalkSpells
import Derived.WalkLawsBesides
import Derived.BigQuiet
import Derived.Lib.Strings
namespace Go.Proofs.Qxb6602916a.AddrW
open Go.RowKit
set_option linter.unusedVariables false

theorem grown_trans {a b c : World} (h : Grown a b) (k : Grown b c) : Grown a c :=
  ⟨World.keptBut_trans h.1 k.1, fun x => (k.2.1 x).trans (h.2.1 x), Nat.le_trans h.2.2 k.2.2⟩

set_option maxHeartbeats 400000 in
theorem same_any (s t : ByteArray) (off : Nat) (w : World) (hs : s.size ≤ 1048576) (ho : off + t.size = s.size)
    (hm : ∀ i (h1 : i < t.size) (h2 : off + i < s.size), s[off + i].toNat = t[i].toNat) :
    Calls Try.prog 7 #[.string s, .int .i64 off, .string t] w fun e w' => e = .returned (.bool true) ∧ Grown w w' := by
  have HM : Hid (∀ i (h1 : i < t.size) (h2 : off + i < s.size), s[off + i].toNat = t[i].toNat) := hm
  clear hm
  have h1 : off ≤ s.size := by omega
  have h2 : t.size ≤ s.size := by omega
  have h3 : (s.size : Int) - off = t.size := by omega
  have HO : Hid (off + t.size = s.size) := ho
  clear ho
  go_enter Try.func7, Try.ntmps7
  go_wp2
  go_loopw [6, 7] (fun _ i wr => ∃ k : Nat, k ≤ t.size ∧ i = .int .i64 k ∧ Grown w wr) (fun _ i _ => t.size - (intOf i).toNat)
  case atStart => exact ⟨0, by omega, rfl, Grown.refl _⟩
  case round =>
    obtain ⟨k, hk, rfl, hg⟩ := hrel
    have HG : Hid (Grown w wr) := hg
    clear hg
    by_cases hlt : k < t.size
    · have hlt2 : off + k < s.size := by have := HO.out; omega
      have HE := HM.out k hlt hlt2
      have hwr : IntKind.i64.wrap ((off : Int) + (k : Int)) = (off : Int) + (k : Int) := by rw [IntKind.wrap_i64]; omega
      have hb1 : 0 ≤ (off : Int) + (k : Int) := by omega
      have hb2 : (off : Int) + (k : Int) < (s.size : Int) := by omega
      have hb3 : ((off : Int) + (k : Int)).toNat = off + k := by omega
      go_wp2
      go_region
      go_wp2
      go_roundw
      case rel => exact ⟨k + 1, by omega, by go_num, HG.out.drew⟩
      case measure => simp [intOf]; omega
    · go_wp2
      go_ret
      exact ⟨rfl, HG.out⟩

set_option maxHeartbeats 400000 in
theorem split_short (s : ByteArray) (w : World) (hs : s.size < 5) :
    Calls Try.prog 5 #[.string s] w fun e w' => e = .returned (.tuple #[.string { data := #[116, 99, 112] }, .string s]) ∧ w' = w := by
  go_enter Try.func5, Try.ntmps5
  go_wp2
  go_ret2
  exact ⟨rfl, rfl⟩

set_option maxHeartbeats 400000 in
theorem split_no (s : ByteArray) (w : World) (hs : s.size ≤ 1048576) (h5 : 5 ≤ s.size) (hp : ((s.extract 0 5).toList == ([117, 110, 105, 120, 58] : List UInt8)) = false) :
    Calls Try.prog 5 #[.string s] w fun e w' => e = .returned (.tuple #[.string { data := #[116, 99, 112] }, .string s]) ∧ w' = w := by
  go_enter Try.func5, Try.ntmps5
  go_wp2
  go_ret2
  exact ⟨rfl, rfl⟩

set_option maxHeartbeats 400000 in
theorem split_yes (s : ByteArray) (w : World) (hs : s.size ≤ 1048576) (h5 : 5 ≤ s.size) (hp : ((s.extract 0 5).toList == ([117, 110, 105, 120, 58] : List UInt8)) = true) :
    Calls Try.prog 5 #[.string s] w fun e w' => e = .returned (.tuple #[.string { data := #[117, 110, 105, 120] }, .string (s.extract 5 s.size)]) ∧ w' = w := by
  go_enter Try.func5, Try.ntmps5
  go_wp2
  go_ret2
  exact ⟨rfl, rfl⟩

theorem pre_bytes (s : ByteArray) (h5 : 5 ≤ s.size) (hp : ((s.extract 0 5).toList == ([117, 110, 105, 120, 58] : List UInt8)) = true) :
    s[0].toNat = 117 ∧ s[1].toNat = 110 ∧ s[2].toNat = 105 ∧ s[3].toNat = 120 ∧ s[4].toNat = 58 := by
  have h := eq_of_beq hp
  have g : ∀ i (hi : i < 5), s[i] = (([117, 110, 105, 120, 58] : List UInt8))[i] := by
    intro i hi
    have h' : i < s.data.size := by have : s.data.size = s.size := rfl; omega
    rw [Lib.extract_toList, List.drop_zero] at h
    have e : (s.data.toList.take (5 - 0))[i]? = some s[i] := by
      rw [List.getElem?_take, if_pos (by omega), Array.getElem?_toList, Array.getElem?_eq_getElem h']
      rfl
    rw [h] at e
    have hi' : i < ([117, 110, 105, 120, 58] : List UInt8).length := hi
    rw [List.getElem?_eq_getElem hi'] at e
    exact (Option.some.inj e).symm
  refine ⟨?_, ?_, ?_, ?_, ?_⟩
  · rw [g 0 (by omega)]; rfl
  · rw [g 1 (by omega)]; rfl
  · rw [g 2 (by omega)]; rfl
  · rw [g 3 (by omega)]; rfl
  · rw [g 4 (by omega)]; rfl

set_option maxHeartbeats 400000 in
theorem hand_any (s : ByteArray) (w : World) (hs : s.size ≤ 1048576) (h5 : 5 ≤ s.size)
    (h0 : s[0].toNat = 117) (h1 : s[1].toNat = 110) (h2 : s[2].toNat = 105) (h3 : s[3].toNat = 120) (h4 : s[4].toNat = 58) :
    Calls Try.prog 6 #[.string s] w fun e w' => e = .returned (.bool true) ∧ w' = w := by
  go_enter Try.func6, Try.ntmps6
  go_wp2
  go_ret
  exact ⟨rfl, rfl⟩

set_option maxHeartbeats 400000 in
theorem walk_long (s : ByteArray) (w : World) (hm : s.size ≤ 9223372036854775807) (h : 1048576 < s.size) :
    Calls Try.prog 3 #[.string s] w fun e w' => e = .returned (.bool true) ∧ Grown w w' := by
  go_enter Try.func3, Try.ntmps3
  go_wp2
  go_ret
  exact ⟨rfl, Grown.refl _⟩

set_option maxHeartbeats 400000 in
theorem walk_unix (s : ByteArray) (w : World) (h : s.size ≤ 1048576) (h5 : 5 ≤ s.size) (hp : ((s.extract 0 5).toList == ([117, 110, 105, 120, 58] : List UInt8)) = true) :
    Calls Try.prog 3 #[.string s] w fun e w' => e = .returned (.bool true) ∧ Grown w w' := by
  have A : Hid (∀ w, Calls Try.prog 5 #[.string s] w fun e w' => e = .returned (.tuple #[.string { data := #[117, 110, 105, 120] }, .string (s.extract 5 s.size)]) ∧ w' = w) := fun w => split_yes s w h h5 hp
  have B : Hid (∀ w, Calls Try.prog 6 #[.string s] w fun e w' => e = .returned (.bool true) ∧ w' = w) := fun w => by
    obtain ⟨a, b, c, d, e⟩ := pre_bytes s h5 hp
    exact hand_any s w h h5 a b c d e
  have C : Hid (∀ w, Calls Try.prog 7 #[.string s, .int .i64 5, .string (s.extract 5 s.size)] w fun e w' => e = .returned (.bool true) ∧ Grown w w') := fun w =>
    same_any s (s.extract 5 s.size) 5 w h (by simp; omega) (fun i h1 h2 => by simp [ByteArray.getElem_extract])
  clear hp
  go_enter Try.func3, Try.ntmps3
  go_wp2_with (first | (go_at_call 4; go_in) | fail)
  refine (A.out _).mono ?_
  rintro e w1 ⟨rfl, rfl⟩
  go_wp2_with fail
  refine (B.out _).mono ?_
  rintro e w2 ⟨rfl, rfl⟩
  go_wp2_with fail
  refine (C.out _).mono ?_
  rintro e w3 ⟨rfl, hg⟩
  have HG : Hid (Grown w2 w3) := hg
  clear hg
  go_wp2
  go_ret
  exact ⟨rfl, HG.out⟩

set_option maxHeartbeats 400000 in
theorem walk_tcp (s : ByteArray) (w : World) (h : s.size ≤ 1048576)
    (A : ∀ w : World, Calls Try.prog 5 #[.string s] w fun e w' => e = .returned (.tuple #[.string { data := #[116, 99, 112] }, .string s]) ∧ w' = w) :
    Calls Try.prog 3 #[.string s] w fun e w' => e = .returned (.bool true) ∧ Grown w w' := by
  have A' : Hid (∀ w, Calls Try.prog 5 #[.string s] w fun e w' => e = .returned (.tuple #[.string { data := #[116, 99, 112] }, .string s]) ∧ w' = w) := A
  clear A
  have C : Hid (∀ w, Calls Try.prog 7 #[.string s, .int .i64 0, .string s] w fun e w' => e = .returned (.bool true) ∧ Grown w w') := fun w =>
    same_any s s 0 w h (by omega) (fun i h1 h2 => by simp)
  go_enter Try.func3, Try.ntmps3
  go_wp2_with (first | (go_at_call 4; go_in) | fail)
  refine (A'.out _).mono ?_
  rintro e w1 ⟨rfl, rfl⟩
  go_wp2_with fail
  refine (C.out _).mono ?_
  rintro e w2 ⟨rfl, hg⟩
  have HG : Hid (Grown w1 w2) := hg
  clear hg
  go_wp2_with fail
  refine (A'.out _).mono ?_
  rintro e w3 ⟨rfl, rfl⟩
  go_wp2_with fail
  refine (C.out _).mono ?_
  rintro e w4 ⟨rfl, hg⟩
  have HG2 : Hid (Grown w3 w4) := hg
  clear hg
  go_wp2
  go_ret
  exact ⟨rfl, grown_trans HG.out HG2.out⟩
end Go.Proofs.Qxb6602916a.AddrW
