/-
  THE WALKS of parseVersion (18), knownVersion (17), ZZknownVersion (12).
-/
import Derived.Test.Qxb6609334aDigits
namespace Go.Proofs.Qxb6609334a
open Go.RowKit

/-- Byte t of s, as a number; 0 behind its end. -/
def bt (s : ByteArray) (t : Nat) : Int := ((s.data.toList.getD t 0).toNat : Int)

theorem bt_at (s : ByteArray) (t : Nat) (h : t < s.size) : (s[t].toNat : Int) = bt s t := by
  unfold bt
  have h' : t < s.data.toList.length := by simpa [Array.length_toList] using h
  rw [List.getD_eq_getElem?_getD, List.getElem?_eq_getElem h']
  rfl

theorem bt_range (s : ByteArray) (t : Nat) : 0 ≤ bt s t ∧ bt s t < 256 := by
  unfold bt
  have := (s.data.toList.getD t 0).toNat_lt
  omega

/-- The number that the first k bytes are the decimal digits of. -/
def vl (s : ByteArray) : Nat → Int
  | 0 => 0
  | k + 1 => vl s k * 10 + (bt s k - 48)

/-- Is s one or two digits? -/
def pvB (s : ByteArray) : Bool := decide (1 ≤ s.size) && decide (s.size ≤ 2) && allD s
/-- Its number; 0 where it is no such text. -/
def pvN (s : ByteArray) : Int := if pvB s then vl s s.size else 0

theorem vl_range (s : ByteArray) (k : Nat) (hk : k ≤ 2) (h : ∀ t, t < k → dgB (bt s t) = true) : 0 ≤ vl s k ∧ vl s k ≤ 99 ∧ (k ≤ 1 → vl s k ≤ 9) := by
  have h0 : 0 < k → 48 ≤ bt s 0 ∧ bt s 0 ≤ 57 := fun hp => by have := h 0 hp; simpa [dgB] using this
  have h1 : 1 < k → 48 ≤ bt s 1 ∧ bt s 1 ≤ 57 := fun hp => by have := h 1 hp; simpa [dgB] using this
  rcases (show k = 0 ∨ k = 1 ∨ k = 2 by omega) with rfl | rfl | rfl
  · simp [vl]
  · have := h0 (by omega); simp only [vl]; omega
  · have := h0 (by omega); have := h1 (by omega); simp only [vl]; omega

theorem ret_pair {a b : Int} {c d : Bool} (h : a = b) (g : c = d) : Ending.returned (.tuple #[.int .i64 a, .bool c]) = .returned (.tuple #[.int .i64 b, .bool d]) := by rw [h, g]

theorem parse_out (s : ByteArray) (hm : s.size ≤ 9223372036854775807) (h : s.size < 1 ∨ 2 < s.size) (w : World) : Calls Try.prog 18 #[.string s] w fun e w' => e = .returned (.tuple #[.int .i64 0, .bool false]) ∧ w = w' := by
  rcases h with h | h
  · go_enter Try.func18, Try.ntmps18
    go_wp2
    go_ret2
    exact ⟨rfl, rfl⟩
  · have h' : ¬ s.size < 1 := by omega
    go_enter Try.func18, Try.ntmps18
    go_wp2
    go_ret2
    exact ⟨rfl, rfl⟩

set_option maxHeartbeats 800000 in
theorem parse_any (s : ByteArray) (hm : s.size ≤ 9223372036854775807) (w : World) : Calls Try.prog 18 #[.string s] w fun e w' => e = .returned (.tuple #[.int .i64 (pvN s), .bool (pvB s)]) ∧ w = w' := by
  by_cases hin : 1 ≤ s.size ∧ s.size ≤ 2
  · obtain ⟨h1, h2⟩ := hin
    have hB : pvB s = allD s := by simp [pvB, h1, h2]
    have HB : Hid (pvB s = allD s) := hB
    clear hB
    go_enter Try.func18, Try.ntmps18
    go_wp2
    go_loop [4, 5] (fun v i => ∃ k : Nat, k ≤ s.size ∧ i = .int .i64 k ∧ v = .int .i64 (vl s k) ∧ ∀ t, t < k → dgB (bt s t) = true) (fun _ i => s.size - (intOf i).toNat)
    case atStart => exact ⟨0, Nat.zero_le _, rfl, rfl, fun t h => by omega⟩
    case round =>
      obtain ⟨k, hk, rfl, rfl, hd⟩ := hrel
      have hv := vl_range s k (by omega) hd
      have HD : Hid (∀ t, t < k → dgB (bt s t) = true) := hd
      clear hd
      by_cases hlt : k < s.size
      · have hb := bt_at s k hlt
        have hr := bt_range s k
        obtain ⟨hv1, hv2, hv3⟩ := hv
        cases hdg : dgB (bt s k)
        · go_wp2_with (go_at_call 16; refine (isDigit_any _ _).mono ?_; rintro e w' ⟨rfl, rfl⟩)
          go_ret2
          have hA : pvB s = false := by rw [HB.out]; exact allD_false hlt (by rw [hb]; exact hdg)
          exact ⟨ret_pair (by simp [pvN, hA]) hA.symm, rfl⟩
        · have hd2 : 48 ≤ bt s k ∧ bt s k ≤ 57 := by simpa [dgB] using hdg
          obtain ⟨hd3, hd4⟩ := hd2
          go_wp2_with (go_at_call 16; refine (isDigit_any _ _).mono ?_; rintro e w' ⟨rfl, rfl⟩)
          go_round
          case rel =>
            refine ⟨k + 1, by omega, by go_num, ?_, fun t ht => ?_⟩
            · rfl
            · by_cases e : t = k
              · subst e; exact hdg
              · exact HD.out t (by omega)
          case measure => simp [intOf]; omega
      · obtain rfl : k = s.size := by omega
        go_wp2
        go_ret2
        have hA : pvB s = true := by rw [HB.out]; exact allD_true fun t ht => by rw [bt_at s t ht]; exact HD.out t ht
        exact ⟨ret_pair (by simp [pvN, hA]) hA.symm, rfl⟩
  · have hA : pvB s = false := by unfold pvB; simp; omega
    have hN : pvN s = 0 := by simp [pvN, hA]
    rw [hA, hN]
    exact parse_out s hm (by omega) w

/-- Is it one of the two known? -/
def knB (s : ByteArray) : Bool := pvB s && (pvN s == 1 || pvN s == 2)

theorem known_any (s : ByteArray) (hm : s.size ≤ 9223372036854775807) (w : World) : Calls Try.prog 17 #[.string s] w fun e w' => e = .returned (.tuple #[.int .i64 (pvN s), .bool (knB s)]) ∧ w = w' := by
  have hK : knB s = (pvB s && (pvN s == 1 || pvN s == 2)) := rfl
  have HK : Hid (knB s = (pvB s && (pvN s == 1 || pvN s == 2))) := hK
  clear hK
  cases h1 : pvB s <;> cases h2 : (pvN s == 1) <;> cases h3 : (pvN s == 2)
  all_goals
    go_enter Try.func17, Try.ntmps17
    go_wp2_with (go_at_call 18; refine (parse_any _ hm _).mono ?_; rintro e w' ⟨rfl, rfl⟩)
    go_ret2
    exact ⟨ret_pair rfl (by rw [HK.out, h1, h2, h3]; rfl), rfl⟩

theorem zzKnown (s : ByteArray) (hm : s.size ≤ 9223372036854775807) (w : World) : Calls Try.prog 12 #[.string s] w fun e w' => e = .returned (.tuple #[.int .i64 (pvN s), .bool (knB s)]) ∧ w = w' := by
  go_enter Try.func12, Try.ntmps12
  go_wp2_with (go_at_call 17; refine (known_any _ hm _).mono ?_; rintro e w' ⟨rfl, rfl⟩)
  go_ret2
  exact ⟨rfl, rfl⟩
end Go.Proofs.Qxb6609334a
