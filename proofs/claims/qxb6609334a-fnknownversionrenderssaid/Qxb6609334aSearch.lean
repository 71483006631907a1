/-
  THE WALK of versionBySearch (13).
-/
import Derived.Test.Qxb6609334aVersion
namespace Go.Proofs.Qxb6609334a
open Go.RowKit

theorem ret_int {a b : Int} (h : a = b) : Ending.returned (.int .i64 a) = .returned (.int .i64 b) := by rw [h]

theorem allD_bt {s : ByteArray} (h : ∀ t, t < s.size → dgB (bt s t) = true) : allD s = true := allD_true fun t ht => by rw [bt_at s t ht]; exact h t ht
theorem allD_bt_no {s : ByteArray} {t : Nat} (ht : t < s.size) (h : dgB (bt s t) = false) : allD s = false := allD_false ht (by rw [bt_at s t ht]; exact h)

theorem dg_iff (n : Int) : dgB n = true ↔ 48 ≤ n ∧ n ≤ 57 := by simp [dgB]
theorem dg_no (n : Int) : dgB n = false ↔ n < 48 ∨ 57 < n := by
  cases h : dgB n
  · simp; have := dg_iff n; rw [h] at this; simp at this; omega
  · simp; have := (dg_iff n).1 h; omega

theorem pv_one {s : ByteArray} (h : s.size = 1) (h0 : 48 ≤ bt s 0 ∧ bt s 0 ≤ 57) : pvN s = bt s 0 - 48 := by
  have hA : allD s = true := allD_bt fun t ht => by
    obtain rfl : t = 0 := by omega
    exact (dg_iff _).2 h0
  simp [pvN, pvB, h, hA, vl]
theorem pv_two {s : ByteArray} (h : s.size = 2) (h0 : 48 ≤ bt s 0 ∧ bt s 0 ≤ 57) (h1 : 48 ≤ bt s 1 ∧ bt s 1 ≤ 57) : pvN s = (bt s 0 - 48) * 10 + (bt s 1 - 48) := by
  have hA : allD s = true := allD_bt fun t ht => by
    rcases (show t = 0 ∨ t = 1 by omega) with rfl | rfl
    · exact (dg_iff _).2 h0
    · exact (dg_iff _).2 h1
  simp [pvN, pvB, h, hA, vl]
theorem pv_not {s : ByteArray} {t : Nat} (ht : t < s.size) (h : bt s t < 48 ∨ 57 < bt s t) : pvN s = 0 := by
  have hA : allD s = false := allD_bt_no ht ((dg_no _).2 h)
  simp [pvN, pvB, hA]
theorem pv_out {s : ByteArray} (h : s.size < 1 ∨ 2 < s.size) : pvN s = 0 := by
  have hA : pvB s = false := by unfold pvB; simp; omega
  simp [pvN, hA]

theorem search_out (s : ByteArray) (hm : s.size ≤ 9223372036854775807) (h : s.size < 1 ∨ 2 < s.size) (w : World) : Calls Try.prog 13 #[.string s] w fun e w' => e = .returned (.int .i64 (pvN s)) ∧ w = w' := by
  rw [pv_out h]
  rcases h with h | h
  · go_enter Try.func13, Try.ntmps13
    go_wp2
    go_ret
    exact ⟨rfl, rfl⟩
  · have h' : ¬ s.size < 1 := by omega
    go_enter Try.func13, Try.ntmps13
    go_wp2
    go_ret
    exact ⟨rfl, rfl⟩

set_option maxHeartbeats 800000 in
theorem search_one (s : ByteArray) (h : s.size = 1) (w : World) : Calls Try.prog 13 #[.string s] w fun e w' => e = .returned (.int .i64 (pvN s)) ∧ w = w' := by
  have HS : Hid (s.size = 1) := h
  have i0 : 0 < s.size := by omega
  have e1 : ((s.size : Int) == 1) = true := by simp; omega
  have e2 : ((s.size : Int) == 2) = false := by simp; omega
  have s1 : 1 ≤ s.size := by omega
  have s2 : s.size ≤ 2 := by omega
  clear h
  have hb := bt_at s 0 i0
  have hr := bt_range s 0
  obtain ⟨p, hp⟩ : ∃ p, p = pvN s := ⟨_, rfl⟩
  rw [← hp]
  have HP : Hid (p = pvN s) := hp
  clear hp
  obtain ⟨c0, hc0⟩ : ∃ c, c = bt s 0 := ⟨_, rfl⟩
  rw [← hc0] at hb hr
  have HC : Hid (c0 = bt s 0) := hc0
  clear hc0
  go_enter Try.func13, Try.ntmps13
  go_wp2
  go_loop [3] (fun v => ∃ k : Nat, k ≤ 100 ∧ v = .int .i64 k ∧ ∀ t : Nat, t < k → t < 10 → c0 ≠ 48 + t) (fun v => 100 - (intOf v).toNat)
  case atStart => exact ⟨0, by omega, rfl, fun t h => by omega⟩
  case round =>
    obtain ⟨k, hk, rfl, hd⟩ := hrel
    have HD : Hid (∀ t : Nat, t < k → t < 10 → c0 ≠ 48 + t) := hd
    clear hd
    by_cases hlt : k < 100
    · by_cases h10 : k < 10
      · cases hc : (c0 == 48 + (k : Int))
        · go_wp2
          go_round
          case rel => exact ⟨k + 1, by omega, by go_num, fun t h1 h2 => by
            by_cases e : t = k
            · subst e; simpa using hc
            · exact HD.out t (by omega) h2⟩
          case measure => simp [intOf]; omega
        · go_wp2
          go_ret
          have hc' : c0 = 48 + (k : Int) := by simpa using hc
          have := HC.out
          exact ⟨ret_int (by rw [HP.out, pv_one HS.out (by omega)]; omega), rfl⟩
      · go_wp2
        go_round
        case rel => exact ⟨k + 1, by omega, by go_num, fun t h1 h2 => HD.out t (by omega) h2⟩
        case measure => simp [intOf]; omega
    · go_wp2
      go_ret
      refine ⟨ret_int ?_, rfl⟩
      rw [HP.out, pv_not i0]
      have hn := HD.out
      have := HC.out
      have g : ¬ (48 ≤ c0 ∧ c0 ≤ 57) := fun g => hn (c0 - 48).toNat (by omega) (by omega) (by omega)
      omega

set_option maxHeartbeats 800000 in
theorem search_two (s : ByteArray) (h : s.size = 2) (w : World) : Calls Try.prog 13 #[.string s] w fun e w' => e = .returned (.int .i64 (pvN s)) ∧ w = w' := by
  have HS : Hid (s.size = 2) := h
  have i0 : 0 < s.size := by omega
  have i1 : 1 < s.size := by omega
  have e1 : ((s.size : Int) == 1) = false := by simp; omega
  have e2 : ((s.size : Int) == 2) = true := by simp; omega
  have s1 : 1 ≤ s.size := by omega
  have s2 : s.size ≤ 2 := by omega
  clear h
  have hb := bt_at s 0 i0
  have hb1 := bt_at s 1 i1
  have hr := bt_range s 0
  have hr1 := bt_range s 1
  obtain ⟨p, hp⟩ : ∃ p, p = pvN s := ⟨_, rfl⟩
  rw [← hp]
  have HP : Hid (p = pvN s) := hp
  clear hp
  obtain ⟨c0, hc0⟩ : ∃ c, c = bt s 0 := ⟨_, rfl⟩
  rw [← hc0] at hb hr
  have HC : Hid (c0 = bt s 0) := hc0
  clear hc0
  obtain ⟨c1, hc1⟩ : ∃ c, c = bt s 1 := ⟨_, rfl⟩
  rw [← hc1] at hb1 hr1
  have HC1 : Hid (c1 = bt s 1) := hc1
  clear hc1
  go_enter Try.func13, Try.ntmps13
  go_wp2
  go_loop [3] (fun v => ∃ k : Nat, k ≤ 100 ∧ v = .int .i64 k ∧ ∀ t : Nat, t < k → ¬ (c0 = 48 + (t : Int) / 10 ∧ c1 = 48 + (t : Int) % 10)) (fun v => 100 - (intOf v).toNat)
  case atStart => exact ⟨0, by omega, rfl, fun t h => by omega⟩
  case round =>
    obtain ⟨k, hk, rfl, hd⟩ := hrel
    have HD : Hid (∀ t : Nat, t < k → ¬ (c0 = 48 + (t : Int) / 10 ∧ c1 = 48 + (t : Int) % 10)) := hd
    clear hd
    by_cases hlt : k < 100
    · cases hc : (c0 == 48 + (k : Int) / 10)
      · go_wp2
        go_round
        case rel => exact ⟨k + 1, by omega, by go_num, fun t h1 => by
          by_cases e : t = k
          · subst e; have : ¬ c0 = 48 + (t : Int) / 10 := by simpa using hc
            omega
          · exact HD.out t (by omega)⟩
        case measure => simp [intOf]; omega
      · cases hd : (c1 == 48 + (k : Int) % 10)
        · go_wp2
          go_round
          case rel => exact ⟨k + 1, by omega, by go_num, fun t h1 => by
            by_cases e : t = k
            · subst e; have : ¬ c1 = 48 + (t : Int) % 10 := by simpa using hd
              omega
            · exact HD.out t (by omega)⟩
          case measure => simp [intOf]; omega
        · go_wp2
          go_ret
          have hc' : c0 = 48 + (k : Int) / 10 := by simpa using hc
          have hd' : c1 = 48 + (k : Int) % 10 := by simpa using hd
          have := HC.out
          have := HC1.out
          exact ⟨ret_int (by rw [HP.out, pv_two HS.out (by omega) (by omega)]; omega), rfl⟩
    · go_wp2
      go_ret
      refine ⟨ret_int ?_, rfl⟩
      have hn := HD.out
      have := HC.out
      have := HC1.out
      rw [HP.out]
      by_cases g0 : 48 ≤ c0 ∧ c0 ≤ 57
      · rw [pv_not i1]
        have g : ¬ (48 ≤ c1 ∧ c1 ≤ 57) := fun g => hn ((c0 - 48) * 10 + (c1 - 48)).toNat (by omega) (by omega)
        omega
      · rw [pv_not i0]
        omega

theorem search_any (s : ByteArray) (hm : s.size ≤ 9223372036854775807) (w : World) : Calls Try.prog 13 #[.string s] w fun e w' => e = .returned (.int .i64 (pvN s)) ∧ w = w' := by
  by_cases h1 : s.size = 1
  · exact search_one s h1 w
  · by_cases h2 : s.size = 2
    · exact search_two s h2 w
    · exact search_out s hm (by omega) w

theorem kn_eq (s : ByteArray) : knB s = (pvN s == 1 || pvN s == 2) := by
  unfold knB
  cases h : pvB s
  · have : pvN s = 0 := by simp [pvN, h]
    rw [this]; rfl
  · rfl
end Go.Proofs.Qxb6609334a
