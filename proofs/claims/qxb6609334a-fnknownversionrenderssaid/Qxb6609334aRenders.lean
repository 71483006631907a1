/-
  THE WALK of FnKnownVersionRenders (6) behind its guard.
-/
import Derived.Test.Qxb6609334aDecimal
namespace Go.Proofs.Qxb6609334a
open Go.RowKit

set_option maxHeartbeats 1600000 in
theorem renders (n : Nat) (pad : Bool) (h1 : n ≤ 1073741824) (w : World) :
    Calls Try.prog 6 #[.int .i64 n, .bool pad] w fun e w' => e = .returned (.bool true) ∧ Grown w w' := by
  go_enter Try.func6, Try.ntmps6
  go_wp2_with fail
  refine (decimal_any n h1 w).mono ?_
  rintro e w1 ⟨s, rfl, hdec, hg⟩
  have HG : Hid (Grown w w1) := hg
  clear hg
  have hsz := hdec.bound
  by_cases h10 : n < 10
  · have hs := hdec.one h10
    have hs1 : s.size = 1 := by rw [hs, strOfNums_size]; rfl
    have hs2 : s.size ≤ 2 := by omega
    cases pad
    · have hp : pvN s = n := by rw [hs]; exact read_one n h10
      clear hs hs1 hdec
      have hk := kn_eq s
      rw [hp] at hk
      have HP : Hid (pvN s = (n : Int)) := hp
      have hpp : (pvN s == (n : Int)) = true := by rw [hp]; simp
      clear hp
      cases h2 : ((n : Int) == 1) <;> cases h3 : ((n : Int) == 2) <;> rw [h2, h3] at hk <;> simp only [Bool.or_self, Bool.or_true, Bool.or_false] at hk
      all_goals
        go_wp2_with (go_at_call 12; refine (zzKnown _ (by omega) _).mono ?_; rintro e w' ⟨rfl, rfl⟩)
        go_ret
        exact ⟨rfl, HG.out⟩
    · obtain ⟨q, hq⟩ : ∃ q : ByteArray, q = (⟨#[48]⟩ : ByteArray) ++ s := ⟨_, rfl⟩
      have hadd : ∀ w, (Op.stringOp .add (⟨#[48]⟩ : ByteArray) s).run Try.prog w = .ok (.string q) w := fun w => by
        rw [hq]; exact run_string_add_sum _ _ _ (by show 1 + s.size ≤ _; omega)
      have hqs : q.size ≤ 2 := by
        rw [hq, ByteArray.size_append]; show 1 + s.size ≤ 2; omega
      have hp : pvN q = n := by
        rw [hq, hs, padded, read_two 0 n (by omega) (by omega)]; omega
      clear hq hs hs1 hdec
      have hk := kn_eq q
      rw [hp] at hk
      have HP : Hid (pvN q = (n : Int)) := hp
      have hpp : (pvN q == (n : Int)) = true := by rw [hp]; simp
      clear hp
      cases h2 : ((n : Int) == 1) <;> cases h3 : ((n : Int) == 2) <;> rw [h2, h3] at hk <;> simp only [Bool.or_self, Bool.or_true, Bool.or_false] at hk
      all_goals
        go_wp2_with (go_at_call 12; refine (zzKnown _ (by omega) _).mono ?_; rintro e w' ⟨rfl, rfl⟩)
        go_ret
        exact ⟨rfl, HG.out⟩
  · by_cases h100 : n < 100
    · have hs := hdec.two (by omega) h100
      have hs2 : s.size ≤ 2 := by rw [hs, strOfNums_size]; exact Nat.le_refl 2
      have hp : pvN s = n := by
        rw [hs, read_two _ _ (by omega) (by omega)]; omega
      clear hs hdec
      cases pad
      all_goals
        have hk := kn_eq s
        rw [hp] at hk
        have HP : Hid (pvN s = (n : Int)) := hp
        have hpp : (pvN s == (n : Int)) = true := by rw [hp]; simp
        clear hp
        cases h2 : ((n : Int) == 1) <;> cases h3 : ((n : Int) == 2) <;> rw [h2, h3] at hk <;> simp only [Bool.or_self, Bool.or_true, Bool.or_false] at hk
        all_goals
          go_wp2_with (go_at_call 12; refine (zzKnown _ (by omega) _).mono ?_; rintro e w' ⟨rfl, rfl⟩)
          go_ret
          exact ⟨rfl, HG.out⟩
    · have hs := hdec.more (by omega)
      have hp : pvN s = 0 := pv_out (.inr hs)
      have hk := kn_eq s
      rw [hp] at hk
      have hk' : knB s = false := hk
      have hpp : (pvN s == 0) = true := by rw [hp]; rfl
      have hs2 : ¬ s.size ≤ 2 := by omega
      clear hk hp hdec
      cases pad
      all_goals
        go_wp2_with (go_at_call 12; refine (zzKnown _ (by omega) _).mono ?_; rintro e w' ⟨rfl, rfl⟩)
        go_ret
        exact ⟨rfl, HG.out⟩
end Go.Proofs.Qxb6609334a
