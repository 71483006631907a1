/-
  THE WALKS of isDigit (16), ZZonlyDigits (8, with 'only' (15) in it), noStrayByte (9), the bounds (7, 10).
-/
import Derived.Test.Qxb6609334aRows
import Derived.WalkKit
import Derived.WalkSpells
import Derived.WalkLawsBesides
import Derived.Below
import Derived.Deep.LoopGhost
namespace Go.Proofs.Qxb6609334a
open Go.RowKit

/-- A decimal digit. -/
def dgB (n : Int) : Bool := decide (48 ≤ n) && decide (n ≤ 57)

/-- Every byte of s is a digit. -/
def allD (s : ByteArray) : Bool := s.data.toList.all fun c => dgB (c.toNat : Int)

theorem ret_bool {a b : Bool} (h : a = b) : Ending.returned (.bool a) = .returned (.bool b) := by rw [h]

theorem allD_true {s : ByteArray} (h : ∀ t (ht : t < s.size), dgB ((s[t]'ht).toNat : Int) = true) : allD s = true := by
  unfold allD
  rw [List.all_eq_true]
  intro c hc
  obtain ⟨t, ht, rfl⟩ := List.mem_iff_getElem.1 hc
  exact h t (by simpa [Array.length_toList] using ht)

theorem allD_false {s : ByteArray} {t : Nat} (ht : t < s.size) (h : dgB ((s[t]'ht).toNat : Int) = false) : allD s = false := by
  unfold allD
  rw [List.all_eq_false]
  refine ⟨s[t]'ht, ?_, by rw [h]; simp⟩
  exact List.mem_iff_getElem.2 ⟨t, by simpa [Array.length_toList] using ht, rfl⟩

theorem allD_append (a b : ByteArray) : allD (a ++ b) = (allD a && allD b) := by
  unfold allD
  rw [ByteArray.data_append, Array.toList_append, List.all_append]

theorem isDigit_any (c : Int) (w : World) : Calls Try.prog 16 #[.int .u8 c] w fun e w' => e = .returned (.bool (dgB c)) ∧ w = w' := by
  go_enter Try.func16, Try.ntmps16
  go_wp2
  all_goals go_ret
  all_goals refine ⟨ret_bool ?_, rfl⟩
  all_goals unfold dgB
  all_goals rw [Bool.eq_iff_iff]
  all_goals simp
  all_goals omega

set_option maxHeartbeats 400000 in
theorem zzDigits (s : ByteArray) (hs : s.size ≤ 2097152) (w : World) : Calls Try.prog 8 #[.string s] w fun e w' => e = .returned (.bool (allD s)) ∧ w = w' := by
  go_enter Try.func8, Try.ntmps8
  go_wp2
  go_loop [5] (fun i => ∃ k : Nat, k ≤ s.size ∧ i = .int .i64 k ∧ ∀ t (ht : t < s.size), t < k → dgB ((s[t]'ht).toNat : Int) = true) (fun i => s.size - (intOf i).toNat)
  case atStart => exact ⟨0, Nat.zero_le _, rfl, fun t _ h => by omega⟩
  case round =>
    obtain ⟨k, hk, rfl, hd⟩ := hrel
    have HD : Hid (∀ t (ht : t < s.size), t < k → dgB ((s[t]'ht).toNat : Int) = true) := hd
    clear hd
    by_cases hlt : k < s.size
    · cases hb : dgB (s[k].toNat : Int)
      · go_wp2_with (go_at_call 16; refine (isDigit_any _ _).mono ?_; rintro e w' ⟨rfl, rfl⟩)
        go_ret
        exact ⟨ret_bool (allD_false hlt hb).symm, rfl⟩
      · go_wp2_with (go_at_call 16; refine (isDigit_any _ _).mono ?_; rintro e w' ⟨rfl, rfl⟩)
        go_round
        case rel => exact ⟨k + 1, by omega, by go_num, fun t ht h => by
          by_cases e : t = k
          · subst e; exact hb
          · exact HD.out t ht (by omega)⟩
        case measure => simp [intOf]; omega
    · go_wp2
      go_ret
      exact ⟨ret_bool (allD_true fun t ht => HD.out t ht (by omega)).symm, rfl⟩

/-- 's[i-1]-'0' > 9' in a byte's arithmetic: the byte is no digit. -/
theorem stray (c : UInt8) : (9 < ((c.toNat : Int) - 48) % 256) ↔ dgB (c.toNat : Int) = false := by
  have h := c.toNat_lt
  unfold dgB
  simp
  omega

set_option maxHeartbeats 400000 in
theorem noStray (s : ByteArray) (hs : s.size ≤ 2097152) (w : World) : Calls Try.prog 9 #[.string s] w fun e w' => e = .returned (.bool (allD s)) ∧ w = w' := by
  go_enter Try.func9, Try.ntmps9
  go_wp2
  go_loop [3] (fun i => ∃ k : Nat, k ≤ s.size ∧ i = .int .i64 k ∧ ∀ t (ht : t < s.size), k ≤ t → dgB ((s[t]'ht).toNat : Int) = true) (fun i => (intOf i).toNat)
  case atStart => exact ⟨s.size, Nat.le_refl _, rfl, fun t h1 h2 => by omega⟩
  case round =>
    obtain ⟨k, hk, rfl, hd⟩ := hrel
    have HD : Hid (∀ t (ht : t < s.size), k ≤ t → dgB ((s[t]'ht).toNat : Int) = true) := hd
    clear hd
    cases k with
    | zero =>
      go_wp2
      go_ret
      exact ⟨ret_bool (allD_true fun t ht => HD.out t ht (by omega)).symm, rfl⟩
    | succ j =>
      have hlt : j < s.size := by omega
      cases hb : dgB (s[j].toNat : Int)
      · have hw : 9 < ((s[j].toNat : Int) - 48) % 256 := (stray _).2 hb
        go_wp2
        go_ret
        exact ⟨ret_bool (allD_false hlt hb).symm, rfl⟩
      · have hw : ((s[j].toNat : Int) - 48) % 256 ≤ 9 := by
          rcases Int.lt_or_le 9 (((s[j].toNat : Int) - 48) % 256) with h | h
          · rw [(stray _).1 h] at hb; cases hb
          · exact h
        go_wp2
        go_round
        case rel => exact ⟨j, by omega, rfl, fun t ht h => by
          by_cases e : t = j
          · subst e; exact hb
          · exact HD.out t ht (by omega)⟩
        case measure => simp [intOf]

theorem bytes7_in (s : ByteArray) (w : World) (h : s.size ≤ 1048576) : Calls Try.prog 7 #[.string s] w fun e w' => e = .returned (.bool true) ∧ w = w' := by
  go_enter Try.func7, Try.ntmps7
  go_wp2
  go_ret
  exact ⟨rfl, rfl⟩

theorem bytes7_out (s : ByteArray) (w : World) (hm : s.size ≤ 9223372036854775807) (h : 1048576 < s.size) : Calls Try.prog 7 #[.string s] w fun e w' => e = .returned (.bool false) ∧ w = w' := by
  go_enter Try.func7, Try.ntmps7
  go_wp2
  go_ret
  exact ⟨rfl, rfl⟩

theorem bytes11_in (s : ByteArray) (w : World) (h : s.size ≤ 1048576) : Calls Try.prog 11 #[.string s] w fun e w' => e = .returned (.bool true) ∧ w = w' := by
  go_enter Try.func11, Try.ntmps11
  go_wp2
  go_ret
  exact ⟨rfl, rfl⟩

theorem bytes11_out (s : ByteArray) (w : World) (hm : s.size ≤ 9223372036854775807) (h : 1048576 < s.size) : Calls Try.prog 11 #[.string s] w fun e w' => e = .returned (.bool false) ∧ w = w' := by
  go_enter Try.func11, Try.ntmps11
  go_wp2
  go_ret
  exact ⟨rfl, rfl⟩

/-- The bound of two texts together. -/
theorem bytes10 (a b : ByteArray) (w : World) (ha : a.size ≤ 9223372036854775807) (hb : b.size ≤ 9223372036854775807) :
    Calls Try.prog 10 #[.string a, .string b] w fun e w' => e = .returned (.bool (decide (a.size + b.size ≤ 1048576))) ∧ w = w' := by
  by_cases h1 : a.size ≤ 1048576
  · by_cases h2 : b.size ≤ 1048576
    · by_cases h3 : a.size + b.size ≤ 1048576
      · go_enter Try.func10, Try.ntmps10
        go_wp2
        go_ret
        exact ⟨ret_bool (decide_eq_true h3).symm, rfl⟩
      · go_enter Try.func10, Try.ntmps10
        go_wp2
        go_ret
        exact ⟨ret_bool (decide_eq_false h3).symm, rfl⟩
    · go_enter Try.func10, Try.ntmps10
      go_wp2
      go_ret
      exact ⟨ret_bool (decide_eq_false (by omega)).symm, rfl⟩
  · go_enter Try.func10, Try.ntmps10
    go_wp2
    go_ret
    exact ⟨ret_bool (decide_eq_false (by omega)).symm, rfl⟩
end Go.Proofs.Qxb6609334a
