import Derived.Test.Qxb6602680aRows
import Derived.WalkKit
import Derived.WalkSpells
import Derived.WalkLawsBesides
import Derived.Deep.OwnRows
namespace Go.Proofs.Qxb6602680a.FoldW
open Go.RowKit
set_option linter.unusedVariables false

/-- a byte folded, as a number -/
def fb (c : Int) : Int := if 65 ≤ c ∧ c ≤ 90 then c + 32 else if c = 95 then 45 else c
theorem fb_up (c : Int) (h1 : 65 ≤ c) (h2 : c ≤ 90) : fb c = c + 32 := if_pos ⟨h1, h2⟩
theorem fb_us : fb 95 = 45 := rfl
theorem fb_no (c : Int) (h1 : ¬ (65 ≤ c ∧ c ≤ 90)) (h2 : c ≠ 95) : fb c = c := by unfold fb; rw [if_neg h1, if_neg h2]
theorem fb_rng (c : Int) (h0 : 0 ≤ c) (h1 : c ≤ 255) : 0 ≤ fb c ∧ fb c ≤ 255 := by unfold fb; split <;> (try split) <;> omega

set_option maxHeartbeats 400000 in
theorem has_short (s p : ByteArray) (w : World) (hs : s.size ≤ 1048576) (hp : p.size ≤ 1048576) (h : s.size < p.size) :
    Calls Try.prog 6 #[.string s, .string p] w fun e w' => e = .returned (.bool false) ∧ w' = w := by
  go_enter Try.func6, Try.ntmps6
  go_wp2
  go_ret
  exact ⟨rfl, rfl⟩

set_option maxHeartbeats 400000 in
theorem has_yes (s p : ByteArray) (w : World) (hs : s.size ≤ 1048576) (h : p.size ≤ s.size)
    (hm : ∀ i (h1 : i < p.size) (h2 : i < s.size), (p[i].toNat : Int) = fb (s[i].toNat : Int)) :
    Calls Try.prog 6 #[.string s, .string p] w fun e w' => e = .returned (.bool true) ∧ w' = w := by
  have HM : Hid (∀ i (h1 : i < p.size) (h2 : i < s.size), (p[i].toNat : Int) = fb (s[i].toNat : Int)) := hm
  clear hm
  go_enter Try.func6, Try.ntmps6
  go_wp2
  go_loop [5, 6, 14] (fun _ _ i => ∃ k : Nat, k ≤ p.size ∧ i = .int .i64 k) (fun _ _ i => p.size - (intOf i).toNat)
  case atStart => exact ⟨0, by omega, rfl⟩
  case round =>
    obtain ⟨k, hk, rfl⟩ := hrel
    by_cases hlt : k < p.size
    · have h2 : k < s.size := by omega
      have HE := HM.out k hlt h2
      have hc0 : (s[k].toNat : Int) ≤ 255 := by have := s[k].toNat_lt; omega
      by_cases h1 : 65 ≤ (s[k].toNat : Int) ∧ (s[k].toNat : Int) ≤ 90
      · obtain ⟨h1, h3⟩ := h1
        rw [fb_up _ h1 h3] at HE
        go_wp2
        go_round
        case rel => exact ⟨k + 1, by omega, by go_num⟩
        case measure => simp [intOf]; omega
      · by_cases h3 : (s[k].toNat : Int) = 95
        · rw [h3, fb_us] at HE
          go_wp2
          go_round
          case rel => exact ⟨k + 1, by omega, by go_num⟩
          case measure => simp [intOf]; omega
        · rw [fb_no _ h1 h3] at HE
          by_cases h4 : 65 ≤ (s[k].toNat : Int)
          all_goals
            go_wp2
            go_round
            case rel => exact ⟨k + 1, by omega, by go_num⟩
            case measure => simp [intOf]; omega
    · go_wp2
      go_ret
      exact ⟨rfl, rfl⟩

/-- A block of bytes of the call's own. -/
def Blk (w : World) (b : Nat) (zs : List Int) : Prop := w.heap[b]? = some (.cells (zs.map (Value.int .u8)).toArray 5 (0, 0))
theorem Blk.cell {w : World} {b : Nat} {zs : List Int} (h : Blk w b zs) (i : Nat) (hi : i < zs.length) : w.cell? ⟨b, i, none⟩ = some (.int .u8 (zs.getD i 0)) := by
  unfold Blk at h
  simp [World.cell?, h, hi]
theorem Blk.free {w : World} {b : Nat} {zs : List Int} (h : Blk w b zs) (i : Nat) : w.frozen? ⟨b, i, none⟩ = false := by
  unfold Blk at h
  simp [World.frozen?, h]
theorem Blk.lt {w : World} {b : Nat} {zs : List Int} (h : Blk w b zs) : b < w.heap.size := lt_of_block h
theorem Blk.set {w : World} {b : Nat} {zs : List Int} (h : Blk w b zs) (i : Nat) (z : Int) : Blk (w.setCell ⟨b, i, none⟩ (.int .u8 z)) b (zs.set i z) := by
  have hlt := h.lt
  unfold Blk at h ⊢
  have h' : w.heap[b] = .cells (zs.map (Value.int .u8)).toArray 5 (0, 0) := by simpa [Array.getElem?_eq_getElem hlt] using h
  show (w.heap.modify b _)[b]? = _
  rw [Array.getElem?_eq_getElem (by simpa using hlt), Array.getElem_modify_self, h']
  simp [List.map_set]
/-- what 'make' lays -/
theorem Blk.made (w : World) (n : Nat) : Blk (w.alloc (.cells (madeCells #[Value.int .u8 0] n) 5)) w.heap.size (List.replicate n 0) := by
  unfold Blk
  rw [heap_alloc_new]
  congr 2
  apply Array.ext'
  simp only [madeCells, Array.toList_map, Array.toList_range, List.map_replicate, List.size_toArray, List.length_cons, List.length_nil, Nat.zero_add, Nat.mod_one]
  rw [List.eq_replicate_iff]
  simp

theorem info5 : (Try.prog.info? 5).map (fun i => (i.zero, i.size, i.bytes)) = some (some (.int .u8 0), 1, 1) := by kernel_rfl

/-- a copy of the first k numbers, noughts behind -/
def part (zs : List Int) (k : Nat) : List Int := zs.take k ++ List.replicate (zs.length - k) 0
theorem part_len (zs : List Int) (k : Nat) (h : k ≤ zs.length) : (part zs k).length = zs.length := by simp [part]; omega
theorem part_get (zs : List Int) (k i : Nat) (hk : k ≤ zs.length) (hi : i < zs.length) : (part zs k)[i]? = some (if i < k then zs.getD i 0 else 0) := by
  unfold part
  by_cases e : i < k
  · rw [List.getElem?_append_left (by simp; omega), if_pos e]
    simp [e, hi]
  · rw [List.getElem?_append_right (by simp; omega), if_neg e, List.getElem?_replicate, if_pos (by simp; omega)]
theorem part_set (zs : List Int) (k : Nat) (h : k < zs.length) : (part zs k).set k (zs.getD k 0) = part zs (k + 1) := by
  apply List.ext_getElem?
  intro i
  by_cases hi : i < zs.length
  · rw [part_get zs (k + 1) i (by omega) hi, List.getElem?_set, part_len zs k (by omega)]
    by_cases e : k = i
    · subst e; simp [h]
    · rw [if_neg e, part_get zs k i (by omega) hi]
      congr 1
      by_cases e2 : i < k
      · rw [if_pos e2, if_pos (by omega)]
      · rw [if_neg e2, if_neg (by omega)]
  · rw [List.getElem?_eq_none (by rw [List.length_set, part_len zs k (by omega)]; omega), List.getElem?_eq_none (by rw [part_len zs (k + 1) (by omega)]; omega)]
theorem part_end (zs : List Int) : part zs zs.length = zs := by simp [part]

/-- the bytes of s, folded, as numbers -/
def fnums (s : ByteArray) : List Int := s.data.toList.map fun c => fb (c.toNat : Int)
theorem fnums_len (s : ByteArray) : (fnums s).length = s.size := by simp [fnums]
theorem fnums_get (s : ByteArray) (k : Nat) (h : k < s.size) : (fnums s).getD k 0 = fb (s[k].toNat : Int) := by
  have h' : k < s.data.size := h
  simp only [fnums, List.getD_eq_getElem?_getD, List.getElem?_map, Array.getElem?_toList]
  rw [Array.getElem?_eq_getElem h']
  rfl
theorem mk_get (l : List UInt8) (k : Nat) (h : k < (⟨l.toArray⟩ : ByteArray).size) (h' : k < l.length) : (⟨l.toArray⟩ : ByteArray)[k] = l[k] := rfl
/-- the folded string -/
def folded (s : ByteArray) : ByteArray := ⟨((fnums s).map fun n => UInt8.ofNat n.toNat).toArray⟩
theorem folded_size (s : ByteArray) : (folded s).size = s.size := by
  show (((fnums s).map fun n => UInt8.ofNat n.toNat).toArray).size = _
  simp [fnums_len]
theorem folded_get (s : ByteArray) (k : Nat) (h1 : k < (folded s).size) (h : k < s.size) : ((folded s)[k].toNat : Int) = fb (s[k].toNat : Int) := by
  have e : (folded s)[k] = UInt8.ofNat ((fnums s)[k]'(by rw [fnums_len]; exact h)).toNat := by
    have := mk_get ((fnums s).map fun (n : Int) => UInt8.ofNat n.toNat) k h1 (by rw [List.length_map, fnums_len]; exact h)
    rw [List.getElem_map] at this
    exact this
  have e2 : (fnums s)[k]'(by rw [fnums_len]; exact h) = fb (s[k].toNat : Int) := by
    rw [← fnums_get s k h]; simp [fnums_len, h]
  rw [e, e2]
  have := fb_rng (s[k].toNat : Int) (by omega) (by have := s[k].toNat_lt; omega)
  simp
  omega

theorem start_part (s : ByteArray) (w : World) : Blk (w.alloc (.cells (madeCells #[Value.int .u8 0] s.size) 5)) w.heap.size (part (fnums s) 0) := by
  have := Blk.made w s.size
  simpa [part, fnums_len] using this

theorem conv_end (s : ByteArray) (w : World) (b : Nat) (h : Blk w b (fnums s)) : Sem.run Try.prog (convert 26 9 (.slice (some ⟨b, 0, none⟩) s.size s.size)) w = .ok (.string (folded s)) w := by
  have hc := run_convert_bytes_back (P := Try.prog) w 26 9 5 ⟨b, 0, none⟩ s.size ((fnums s).map fun n => UInt8.ofNat n.toNat) Try.underlying26 Try.underlying5 Try.underlying9 (fun j hj => by
    have hj' : j < s.size := by simpa [fnums_len] using hj
    have e : (⟨b, 0, none⟩ : Addr).add j = ⟨b, j, none⟩ := by
      by_cases h0 : j = 0
      · subst h0; rfl
      · simp [Addr.add, h0]
    rw [e, h.cell j (by rw [fnums_len]; exact hj'), fnums_get s j hj']
    have e2 : (fnums s)[j]'(by rw [fnums_len]; exact hj') = fb (s[j].toNat : Int) := by
      rw [← fnums_get s j hj']; simp [fnums_len, hj']
    have := fb_rng (s[j].toNat : Int) (by omega) (by have := s[j].toNat_lt; omega)
    simp [e2]
    omega)
  simpa [fnums_len, folded] using hc

set_option maxHeartbeats 400000 in
theorem fold_any (s : ByteArray) (w : World) (hs : s.size ≤ 1048576) :
    Calls Try.prog 7 #[.string s] w fun e w' => e = .returned (.string (folded s)) ∧ Grown w w' := by
  have hmk := fun w => run_make_row' (P := Try.prog) 26 5 (.int .u8 0) 1 Try.underlying26 info5 rfl .i64 .i64 s.size (by omega) (by omega) w
  go_enter Try.func7, Try.ntmps7
  go_wp2
  clear hmk
  go_loopw [4, 5] (fun i _ wr => ∃ k : Nat, k ≤ s.size ∧ i = .int .i64 k ∧ Blk wr w.heap.size (part (fnums s) k) ∧ Grown w wr) (fun i _ _ => s.size - (intOf i).toNat)
  case atStart => exact ⟨0, by omega, rfl, start_part s w, (Grown.refl _).alloc _ _⟩
  case round =>
    obtain ⟨k, hk, rfl, hb, hg⟩ := hrel
    by_cases hlt : k < s.size
    · have hset := hb.set k ((fnums s).getD k 0)
      rw [part_set _ k (by rw [fnums_len]; exact hlt), fnums_get s k hlt] at hset
      have HS : Hid (Blk (wr.setCell ⟨w.heap.size, k, none⟩ (.int .u8 (fb (s[k].toNat : Int)))) w.heap.size (part (fnums s) (k + 1))) := hset
      have HG : Hid (Grown w (wr.setCell ⟨w.heap.size, k, none⟩ (.int .u8 (fb (s[k].toNat : Int))))) := hg.setCell (by exact Nat.le_refl _) _
      have hold := hb.cell k (by rw [part_len _ k (by rw [fnums_len]; omega), fnums_len]; omega)
      have hfree := hb.free k
      have hc0 : (s[k].toNat : Int) ≤ 255 := by have := s[k].toNat_lt; omega
      clear hset hb hg
      by_cases h1 : 65 ≤ (s[k].toNat : Int) ∧ (s[k].toNat : Int) ≤ 90
      · obtain ⟨h1, h3⟩ := h1
        rw [fb_up _ h1 h3] at HS HG
        go_wp2
        go_roundw
        case rel => exact ⟨k + 1, by omega, by go_num, HS.out, HG.out⟩
        case measure => simp [intOf]; omega
      · by_cases h3 : (s[k].toNat : Int) = 95
        · rw [h3, fb_us] at HS HG
          go_wp2
          go_roundw
          case rel => exact ⟨k + 1, by omega, by go_num, HS.out, HG.out⟩
          case measure => simp [intOf]; omega
        · rw [fb_no _ h1 h3] at HS HG
          by_cases h4 : 65 ≤ (s[k].toNat : Int)
          all_goals
            go_wp2
            go_roundw
            case rel => exact ⟨k + 1, by omega, by go_num, HS.out, HG.out⟩
            case measure => simp [intOf]; omega
    · obtain rfl : k = s.size := by omega
      rw [← fnums_len s, part_end] at hb
      have hcv := conv_end s wr _ hb
      have HG : Hid (Grown w wr) := hg
      clear hb hg
      go_wp2
      go_ret
      exact ⟨rfl, HG.out⟩
end Go.Proofs.Qxb6602680a.FoldW
