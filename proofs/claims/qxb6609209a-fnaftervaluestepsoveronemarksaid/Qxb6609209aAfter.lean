/-
  THE WALKS of (*keyWalk).afterValue (10), ZZafterValue (6).
-/
import Derived.Test.Qxb6609209aSpace
namespace Go.Proofs.Qxb6609209a
open Go.RowKit
open Av (spB Skips Av)

set_option maxHeartbeats 800000 in
theorem after_any (B : Nat) (ao : Option Addr) (len cap : Nat) (z : Nat → Int) (i : Nat) (en : Int) (w : World) (hl : len ≤ 1048576) (hi : i ≤ len) (hd : Dat w B ao len z) (hk : Kw w B ao len cap i) :
    Calls Try.prog 10 #[.pointer (some ⟨B, 0, none⟩), .int .u8 en] w fun e w' => ∃ m o a, e = .returned (.tuple #[.bool m, .bool o]) ∧ Av z len i en m o a ∧ a ≤ len ∧ Kw w' B ao len cap a ∧ Below B w w' := by
  go_enter Try.func10, Try.ntmps10
  go_wp2_with fail
  refine (space_any B ao len cap z i _ hl hi hd hk).mono ?_
  rintro e w1 ⟨rfl, j, hs, hk1, hb1⟩
  have c0 := hk1.data
  have c1 := hk1.place
  have f1 := hk1.free
  have hj := hs.hi
  by_cases hlt : j < len
  · obtain ⟨b, rfl, hb, hz⟩ := (hd.later hb1) (by omega)
    have c2 := hz j hlt
    have e1 : ((j : Int) < (len : Int)) := by omega
    have e2 : ((j : Int) == (len : Int)) = false := by simp; omega
    cases h1 : (z j == en)
    · cases h2 : (z j == 44)
      · go_wp2_with fail
        go_quiet (fail)
        go_wp2_with fail
        go_quiet (fail)
        go_wp2_with fail
        go_ret2
        exact ⟨false, false, j, rfl, ⟨j, hs, .inr (.inr (.inr ⟨hlt, by simpa using h1, by simpa using h2, rfl, rfl, rfl⟩))⟩, hj, hk1.drewN _, below_drewN hb1 _⟩
      · go_wp2_with fail
        go_quiet (fail)
        go_wp2_with fail
        go_quiet (fail)
        go_wp2_with fail
        have hb2 : ∀ n, Below B w ((w1.drewN n).setCell ⟨B, 1, none⟩ (.int .i64 ((j + 1 : Nat) : Int))) := fun n => (below_drewN hb1 n).setCell (Nat.le_refl _) _
        refine (space_any B _ len cap z (j + 1) _ hl (by omega) (hd.later (hb2 _)) ((hk1.drewN _).set (j + 1))).mono ?_
        rintro e w2 ⟨rfl, k, hs2, hk2, hb3⟩
        go_wp2_with fail
        go_ret2
        exact ⟨true, true, k, rfl, ⟨j, hs, .inr (.inr (.inl ⟨hlt, by simpa using h1, by simpa using h2, rfl, rfl, hs2⟩))⟩, hs2.hi, hk2, (hb2 _).trans hb3⟩
    · go_wp2_with fail
      go_quiet (fail)
      go_wp2_with fail
      go_quiet (fail)
      go_wp2_with fail
      go_ret2
      exact ⟨false, true, j + 1, rfl, ⟨j, hs, .inr (.inl ⟨hlt, by simpa using h1, rfl, rfl, rfl⟩)⟩, by omega, (hk1.drewN _).set (j + 1), (below_drewN hb1 _).setCell (Nat.le_refl _) _⟩
  · have e2 : ((j : Int) == (len : Int)) = true := by simp; omega
    go_wp2_with fail
    go_quiet (fail)
    go_wp2_with fail
    go_ret2
    exact ⟨false, false, j, rfl, ⟨j, hs, .inl ⟨by omega, rfl, rfl, rfl⟩⟩, hj, hk1.drewN _, below_drewN hb1 _⟩

set_option maxHeartbeats 800000 in
theorem zz_any (ao : Option Addr) (len cap : Nat) (z : Nat → Int) (i : Nat) (to en : Int) (w : World) (hl : len ≤ 1048576) (hi : i ≤ len) (hd : Dat w w.heap.size ao len z) :
    Calls Try.prog 6 #[.slice ao len cap, .int .i64 i, .int .i64 to, .int .u8 en] w fun e w' => ∃ m o a, e = .returned (.tuple #[.bool m, .bool o, .int .i64 (a : Nat)]) ∧ Av z len i en m o a ∧ a ≤ len ∧ Below w.heap.size w w' := by
  have hb0 : Below w.heap.size w (w.alloc (.cells #[.slice ao len cap, .int .i64 i, .int .i64 to] 30)) := (Below.refl _ _).alloc (Nat.le_refl _) _
  go_enter Try.func6, Try.ntmps6
  go_wp2_with fail
  refine (after_any w.heap.size ao len cap z i en _ hl hi (hd.later hb0) ?_).mono ?_
  · exact ⟨by simp, by simp, by simp⟩
  rintro e w1 ⟨m, o, a, rfl, hav, ha, hk, hb⟩
  have c1 := hk.place
  go_wp2_with fail
  go_quiet (fail)
  go_wp2_with fail
  go_ret3
  exact ⟨m, o, a, rfl, hav, ha, below_drewN (hb0.trans hb) _⟩
end Go.Proofs.Qxb6609209a
