/-
  THE WALKS of scanAfterValue (7) and of the two bounds on the length (5, 8).
-/
import Derived.Test.Qxb6609209aSpace
namespace Go.Proofs.Qxb6609209a
open Go.RowKit
open Av (spB Skips Av)

theorem bytes5_in (ao : Option Addr) (len cap : Nat) (a b c : Int) (w : World) (h : len ≤ 1048576) :
    Calls Try.prog 5 #[.slice ao len cap, .int .i64 a, .int .i64 b, .int .u8 c] w fun e w' => e = .returned (.bool true) ∧ w = w' := by
  go_enter Try.func5, Try.ntmps5
  go_wp2
  go_ret
  exact ⟨rfl, rfl⟩
theorem bytes5_out (ao : Option Addr) (len cap : Nat) (a b c : Int) (w : World) (h : 1048576 < len) :
    Calls Try.prog 5 #[.slice ao len cap, .int .i64 a, .int .i64 b, .int .u8 c] w fun e w' => e = .returned (.bool false) ∧ w = w' := by
  go_enter Try.func5, Try.ntmps5
  go_wp2
  go_ret
  exact ⟨rfl, rfl⟩
theorem bytes8_in (ao : Option Addr) (len cap : Nat) (a b c : Int) (w : World) (h : len ≤ 1048576) :
    Calls Try.prog 8 #[.slice ao len cap, .int .i64 a, .int .i64 b, .int .u8 c] w fun e w' => e = .returned (.bool true) ∧ w = w' := by
  go_enter Try.func8, Try.ntmps8
  go_wp2
  go_ret
  exact ⟨rfl, rfl⟩
theorem bytes8_out (ao : Option Addr) (len cap : Nat) (a b c : Int) (w : World) (h : 1048576 < len) :
    Calls Try.prog 8 #[.slice ao len cap, .int .i64 a, .int .i64 b, .int .u8 c] w fun e w' => e = .returned (.bool false) ∧ w = w' := by
  go_enter Try.func8, Try.ntmps8
  go_wp2
  go_ret
  exact ⟨rfl, rfl⟩

/-- Where the scanner stands: 'p': has it passed a comma? 'k': the place that it looks at next. -/
def At (z : Nat → Int) (n i : Nat) (e : Int) (p : Bool) (k : Nat) : Prop :=
  i ≤ k ∧ k ≤ n ∧
  (p = false → ∀ t, i ≤ t → t < k → spB (z t) = true) ∧
  (p = true → ∃ j, Skips z n i j ∧ j < n ∧ z j ≠ e ∧ z j = 44 ∧ j < k ∧ ∀ t, j < t → t < k → spB (z t) = true)

theorem At.space {z : Nat → Int} {n i k : Nat} {e : Int} {p : Bool} (h : At z n i e p k) (hlt : k < n) (hs : spB (z k) = true) : At z n i e p (k + 1) := by
  obtain ⟨h1, h2, h3, h4⟩ := h
  refine ⟨by omega, by omega, fun hp t g1 g2 => ?_, fun hp => ?_⟩
  · by_cases e : t = k
    · subst e; exact hs
    · exact h3 hp t g1 (by omega)
  · obtain ⟨j, j1, j2, j3, j4, j5, j6⟩ := h4 hp
    refine ⟨j, j1, j2, j3, j4, by omega, fun t g1 g2 => ?_⟩
    by_cases e : t = k
    · subst e; exact hs
    · exact j6 t g1 (by omega)

theorem At.skips {z : Nat → Int} {n i k : Nat} {e : Int} (h : At z n i e false k) (hlt : k < n) (hs : spB (z k) = false) : Skips z n i k :=
  ⟨h.1, h.2.1, h.2.2.1 rfl, .inr ⟨hlt, hs⟩⟩

theorem At.comma {z : Nat → Int} {n i k : Nat} {e : Int} (h : At z n i e false k) (hlt : k < n) (hs : spB (z k) = false) (h1 : z k ≠ e) (h2 : z k = 44) : At z n i e true (k + 1) :=
  ⟨(by have := h.1; omega), (by omega), (fun hp => by cases hp), fun _ => ⟨k, h.skips hlt hs, hlt, h1, h2, by omega, fun t g1 g2 => by omega⟩⟩

theorem At.past {z : Nat → Int} {n i k : Nat} {e : Int} (h : At z n i e true k) (hs : k = n ∨ (k < n ∧ spB (z k) = false)) : Av z n i e true true k := by
  obtain ⟨j, j1, j2, j3, j4, j5, j6⟩ := h.2.2.2 rfl
  exact ⟨j, j1, .inr (.inr (.inl ⟨j2, j3, j4, rfl, rfl, ⟨by omega, h.2.1, fun t g1 g2 => j6 t (by omega) g2, hs⟩⟩))⟩

theorem At.ends {z : Nat → Int} {n i : Nat} {e : Int} {p : Bool} (h : At z n i e p n) : Av z n i e p p n := by
  cases p with
  | false => exact ⟨n, ⟨h.1, Nat.le_refl _, h.2.2.1 rfl, .inl rfl⟩, .inl ⟨rfl, rfl, rfl, rfl⟩⟩
  | true => exact h.past (.inl rfl)

/-- What both readers answer. -/
def Says (z : Nat → Int) (n i : Nat) (en : Int) (e : Ending) : Prop := ∃ m o a, e = .returned (.tuple #[.bool m, .bool o, .int .i64 (a : Nat)]) ∧ Av z n i en m o a

set_option maxHeartbeats 800000 in
theorem scan_any (B : Nat) (ao : Option Addr) (len cap : Nat) (z : Nat → Int) (i : Nat) (en : Int) (w : World) (hl : len ≤ 1048576) (hi : i ≤ len) (hd : Dat w B ao len z) :
    Calls Try.prog 7 #[.slice ao len cap, .int .i64 i, .int .u8 en] w fun e w' => w' = w ∧ Says z len i en e := by
  go_enter Try.func7, Try.ntmps7
  go_wp2
  go_loop [9, 10] (fun p q => ∃ (pc : Bool) (k : Nat), p = .bool pc ∧ q = .int .i64 k ∧ At z len i en pc k) (fun _ q => len - (intOf q).toNat)
  case atStart => exact ⟨false, i, rfl, rfl, Nat.le_refl _, hi, fun _ t g1 g2 => by omega, fun h => by cases h⟩
  case round =>
    obtain ⟨pc, k, rfl, rfl, hat⟩ := hrel
    have hk : k ≤ len := hat.2.1
    by_cases hlt : k < len
    · obtain ⟨b, rfl, hb, hz⟩ := hd (by omega)
      have c2 := hz k hlt
      have e1 : ((k : Int) < (len : Int)) := by omega
      clear hz hd
      cases hs : spB (z k)
      · cases pc
        · cases h1 : (z k == en)
          · cases h2 : (z k != 44)
            · go_wp2_with (go_at_call 9; refine (isJSONSpace_any _ _).mono ?_; rintro e w' ⟨rfl, rfl⟩)
              go_round
              case rel => exact ⟨true, k + 1, rfl, by go_num, hat.comma hlt hs (by simpa using h1) (by simpa using h2)⟩
              case measure => simp [intOf]; omega
            · go_wp2_with (go_at_call 9; refine (isJSONSpace_any _ _).mono ?_; rintro e w' ⟨rfl, rfl⟩)
              go_ret3
              exact ⟨rfl, false, false, k, rfl, k, hat.skips hlt hs, .inr (.inr (.inr ⟨hlt, by simpa using h1, by simpa using h2, rfl, rfl, rfl⟩))⟩
          · go_wp2_with (go_at_call 9; refine (isJSONSpace_any _ _).mono ?_; rintro e w' ⟨rfl, rfl⟩)
            go_ret3
            exact ⟨rfl, false, true, k + 1, rfl, k, hat.skips hlt hs, .inr (.inl ⟨hlt, by simpa using h1, rfl, rfl, rfl⟩)⟩
        · go_wp2_with (go_at_call 9; refine (isJSONSpace_any _ _).mono ?_; rintro e w' ⟨rfl, rfl⟩)
          go_ret3
          exact ⟨rfl, true, true, k, rfl, hat.past (.inr ⟨hlt, hs⟩)⟩
      · go_wp2_with (go_at_call 9; refine (isJSONSpace_any _ _).mono ?_; rintro e w' ⟨rfl, rfl⟩)
        go_round
        case rel => exact ⟨pc, k + 1, rfl, by go_num, hat.space hlt hs⟩
        case measure => simp [intOf]; omega
    · obtain rfl : k = len := by omega
      go_wp2
      go_ret3
      exact ⟨rfl, pc, pc, k, rfl, hat.ends⟩
end Go.Proofs.Qxb6609209a
