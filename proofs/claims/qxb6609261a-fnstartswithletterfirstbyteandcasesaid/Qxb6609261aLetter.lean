/-
  THE WALKS of startsWithLetter (6), ZZstartsWithLetter (5), the bound (4).
-/
import Derived.Test.Qxb6609261aRows
import Derived.WalkKit
import Derived.WalkSpells
import Derived.WalkLawsBesides
import Derived.Below
import Derived.Deep.LoopGhost
import Derived.Laws.BytesArg
import Derived.RegionTactic
namespace Go.Proofs.Qxb6609261a
open Go.RowKit

/-- An ASCII letter. -/
def ltB (n : Int) : Bool := (decide (65 ≤ n) && decide (n ≤ 90)) || (decide (97 ≤ n) && decide (n ≤ 122))

theorem ret_bool {a b : Bool} (h : a = b) : Ending.returned (.bool a) = .returned (.bool b) := by rw [h]

theorem notEmpty (s : ByteArray) (h : 0 < s.size) : s.toList.isEmpty = false := by
  rw [ByteArray.toList_eq, List.isEmpty_eq_false_iff]
  intro e
  have g : s.size = s.data.toList.length := (Array.length_toList).symm
  rw [e, List.length_nil] at g
  omega

theorem let_pos (s : ByteArray) (h : 0 < s.size) (w : World) : Calls Try.prog 6 #[.string s] w fun e w' => e = .returned (.bool (ltB (s[0].toNat : Int))) ∧ w = w' := by
  have hne := notEmpty s h
  go_enter Try.func6, Try.ntmps6
  go_wp2
  all_goals go_ret
  all_goals refine ⟨ret_bool ?_, rfl⟩
  all_goals unfold ltB
  all_goals rw [Bool.eq_iff_iff]
  all_goals simp
  all_goals omega

theorem let_nil (w : World) : Calls Try.prog 6 #[.string ByteArray.empty] w fun e w' => e = .returned (.bool false) ∧ w = w' := by
  go_enter Try.func6, Try.ntmps6
  go_wp2
  go_ret
  exact ⟨rfl, rfl⟩

theorem zz_pos (s : ByteArray) (h : 0 < s.size) (w : World) : Calls Try.prog 5 #[.string s] w fun e w' => e = .returned (.bool (ltB (s[0].toNat : Int))) ∧ w = w' := by
  go_enter Try.func5, Try.ntmps5
  go_wp2_with fail
  refine (let_pos s h _).mono ?_
  rintro e w' ⟨rfl, rfl⟩
  go_wp2_with fail
  go_ret
  exact ⟨rfl, rfl⟩

theorem zz_nil (w : World) : Calls Try.prog 5 #[.string ByteArray.empty] w fun e w' => e = .returned (.bool false) ∧ w = w' := by
  go_enter Try.func5, Try.ntmps5
  go_wp2_with fail
  refine (let_nil _).mono ?_
  rintro e w' ⟨rfl, rfl⟩
  go_wp2_with fail
  go_ret
  exact ⟨rfl, rfl⟩

theorem bytes_in (s : ByteArray) (w : World) (h : s.size ≤ 1048576) : Calls Try.prog 4 #[.string s] w fun e w' => e = .returned (.bool true) ∧ w = w' := by
  go_enter Try.func4, Try.ntmps4
  go_wp2
  go_ret
  exact ⟨rfl, rfl⟩

theorem bytes_out (s : ByteArray) (w : World) (hm : s.size ≤ 9223372036854775807) (h : 1048576 < s.size) : Calls Try.prog 4 #[.string s] w fun e w' => e = .returned (.bool false) ∧ w = w' := by
  go_enter Try.func4, Try.ntmps4
  go_wp2
  go_ret
  exact ⟨rfl, rfl⟩

/-- How many of the first k bytes are letters. -/
def cnt : Nat → Nat
  | 0 => 0
  | k + 1 => cnt k + if ltB k then 1 else 0

theorem cnt_le : ∀ k, cnt k ≤ k
  | 0 => Nat.le_refl _
  | k + 1 => by have := cnt_le k; simp only [cnt]; split <;> omega
theorem cnt_yes {k : Nat} (h : ltB k = true) : cnt (k + 1) = cnt k + 1 := by simp [cnt, h]
theorem cnt_no {k : Nat} (h : ltB k = false) : cnt (k + 1) = cnt k := by simp [cnt, h]
theorem cnt_all : cnt 256 = 52 := by decide +kernel

/-- The text of one byte. -/
def one (n : Int) : ByteArray := strOfNums [n]

theorem one_size (n : Int) : (one n).size = 1 := strOfNums_size _
theorem one_at (n : Int) (h0 : 0 ≤ n) (h1 : n < 256) (h : 0 < (one n).size) : (((one n)[0]'h).toNat : Int) = n := by
  show ((UInt8.ofNat n.toNat).toNat : Int) = n
  rw [UInt8.toNat_ofNat']
  omega

theorem zz_one (n : Int) (h0 : 0 ≤ n) (h1 : n < 256) (w : World) : Calls Try.prog 5 #[.string (one n)] w fun e w' => e = .returned (.bool (ltB n)) ∧ w = w' := by
  have h : 0 < (one n).size := by rw [one_size]; omega
  have g := zz_pos (one n) h w
  rw [one_at n h0 h1] at g
  exact g

theorem conv_one (w : World) (n : Int) : (convert 23 9 (.slice (some ⟨w.heap.size, 0, none⟩) 1 1)).run Try.prog (w.alloc (.cells #[.int .u8 n] 5)) = .ok (.string (one n)) (w.alloc (.cells #[.int .u8 n] 5)) :=
  run_convert_bytes_arg (P := Try.prog) (w.alloc (.cells #[.int .u8 n] 5)) 23 5 Try.underlying23 Try.underlying5 w.heap.size 0 1 1 [n] rfl (fun i hi => by
    obtain rfl : i = 0 := by omega
    simp) 9 Try.underlying9

theorem conv_drew (w : World) (n : Int) : (convert 23 9 (.slice (some ⟨w.heap.size, 0, none⟩) 1 1)).run Try.prog (w.alloc (.cells #[.int .u8 n] 5)).drew = .ok (.string (one n)) (w.alloc (.cells #[.int .u8 n] 5)).drew :=
  run_convert_bytes_arg (P := Try.prog) (w.alloc (.cells #[.int .u8 n] 5)).drew 23 5 Try.underlying23 Try.underlying5 w.heap.size 0 1 1 [n] rfl (fun i hi => by
    obtain rfl : i = 0 := by omega
    simp) 9 Try.underlying9

/-- The text with its first byte turned. -/
def flp (s : ByteArray) (n : Int) : ByteArray := one n ++ s.extract 1 s.size

theorem flp_size (s : ByteArray) (n : Int) : 0 < (flp s n).size := by
  unfold flp
  rw [ByteArray.size_append, one_size]
  omega

theorem flp_at (s : ByteArray) (n : Int) (h : 0 < (flp s n).size) : (flp s n)[0]'h = (one n)[0]'(by rw [one_size]; omega) := by
  exact ByteArray.getElem_append_left (a := one n) (b := s.extract 1 s.size) (i := 0) (by rw [one_size n]; omega)

theorem add_flp (s : ByteArray) (h : s.size ≤ 1048576) (n : Int) (w : World) : (Op.stringOp .add (one n) (s.extract 1 s.size)).run Try.prog w = .ok (.string (flp s n)) w := by
  refine run_string_add_sum _ _ _ ?_
  rw [one_size, ByteArray.size_extract]
  omega

theorem turned : ∀ c : Fin 256, ltB (bits .xor .u8 (c.val : Int) 32) = ltB (c.val : Int) ∧ 0 ≤ bits .xor .u8 (c.val : Int) 32 ∧ bits .xor .u8 (c.val : Int) 32 < 256 := by decide +kernel

theorem turned_byte (c : UInt8) : ltB (bits .xor .u8 (c.toNat : Int) 32) = ltB (c.toNat : Int) ∧ 0 ≤ bits .xor .u8 (c.toNat : Int) 32 ∧ bits .xor .u8 (c.toNat : Int) 32 < 256 :=
  turned ⟨c.toNat, c.toNat_lt⟩

theorem zz_flp (s : ByteArray) (h0 : 0 < s.size) (w : World) : Calls Try.prog 5 #[.string (flp s (bits .xor .u8 (s[0].toNat : Int) 32))] w fun e w' => e = .returned (.bool (ltB (s[0].toNat : Int))) ∧ w = w' := by
  obtain ⟨t1, t2, t3⟩ := turned_byte s[0]
  have g := zz_pos (flp s (bits .xor .u8 (s[0].toNat : Int) 32)) (flp_size _ _) w
  rw [flp_at, one_at _ t2 t3, t1] at g
  exact g

theorem zz_head (s : ByteArray) (h0 : 0 < s.size) (w : World) : Calls Try.prog 5 #[.string (s.extract 0 1)] w fun e w' => e = .returned (.bool (ltB (s[0].toNat : Int))) ∧ w = w' := by
  have g := zz_pos (s.extract 0 1) (by rw [ByteArray.size_extract]; omega) w
  rw [ByteArray.getElem_extract] at g
  exact g

set_option maxRecDepth 100000 in
set_option maxHeartbeats 800000 in
theorem law_in (s : ByteArray) (h : s.size ≤ 1048576) (w : World) :
    Calls Try.prog 3 #[.string s] w fun e w' => e = .returned (.bool true) ∧ Grown w w' := by
  have hcv := conv_one
  have hcv2 := conv_drew
  go_enter Try.func3, Try.ntmps3
  go_wp2_with (go_at_call 4; refine (bytes_in _ _ h).mono ?_; rintro e w' ⟨rfl, rfl⟩)
  go_loopg [3, 4] 256 (fun g s3 s4 wx => ∃ k : Nat, k + g = 256 ∧ s3 = .int .i64 (cnt k : Nat) ∧ s4 = .int .i64 k ∧ Grown w wx)
  case atStart => exact ⟨0, rfl, rfl, rfl, Grown.refl _⟩
  case round =>
    obtain ⟨k, hk, rfl, rfl, hg⟩ := hrel
    have hc := cnt_le k
    by_cases hlt : k < 256
    · obtain ⟨n, hn⟩ : ∃ n : Nat, n = cnt k := ⟨_, rfl⟩
      rw [← hn] at hc ⊢
      have HN : Hid (n = cnt k) := hn
      have HK : Hid (k + gk = 256) := hk
      have HG : Hid (Grown w wr) := hg
      clear hn hk hg
      cases hb : ltB k
      · go_wp2_with (go_at_call 5; refine (zz_one _ (by omega) (by omega) _).mono ?_; rintro e w' ⟨rfl, rfl⟩)
        go_roundg (gk - 1)
        case measure => have := HK.out; omega
        case rel => exact ⟨k + 1, by have := HK.out; omega, by rw [cnt_no hb, ← HN.out], by go_num, HG.out.alloc _ _⟩
      · go_wp2_with (go_at_call 5; refine (zz_one _ (by omega) (by omega) _).mono ?_; rintro e w' ⟨rfl, rfl⟩)
        go_roundg (gk - 1)
        case measure => have := HK.out; omega
        case rel => exact ⟨k + 1, by have := HK.out; omega, by rw [cnt_yes hb, ← HN.out]; go_num, by go_num, HG.out.alloc _ _⟩
    · obtain rfl : k = 256 := by omega
      rw [cnt_all]
      clear hk hc hlt
      have HG : Hid (Grown w wr) := hg
      clear hg
      by_cases h0 : 0 < s.size
      · have hne := notEmpty s h0
        have i0 : (0 : Int) < (s.size : Int) := by omega
        go_wp2_with (go_at_call 5; refine (zz_pos _ h0 _).mono ?_; rintro e w' ⟨rfl, rfl⟩)
        have i1 : (1 : Int) ≤ (s.size : Int) := by omega
        have ha := add_flp s h
        go_region
        go_wp2_with fail
        refine (zz_head s h0 _).mono ?_
        rintro e w' ⟨rfl, rfl⟩
        go_wp2_with fail
        refine (zz_flp s h0 _).mono ?_
        rintro e w' ⟨rfl, rfl⟩
        go_wp2_with fail
        go_ret
        exact ⟨ret_bool (by simp), (HG.out.alloc _ _).drew⟩
      · obtain rfl : s = ByteArray.empty := by
          apply ByteArray.ext
          apply Array.eq_empty_of_size_eq_zero
          show s.size = 0
          omega
        go_wp2_with (go_at_call 5; refine (zz_nil _).mono ?_; rintro e w' ⟨rfl, rfl⟩)
        go_ret
        exact ⟨rfl, HG.out⟩
end Go.Proofs.Qxb6609261a
