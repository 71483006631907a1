/-
  THE WALKS of isSpace (12), isJSONSpace (9), (*keyWalk).space (11).
-/
import Derived.Test.Qxb6609209aRows
import Derived.Test.Qxb6609209aPlain
import Derived.WalkKit
import Derived.WalkSpells
import Derived.WalkLawsBesides
import Derived.Below
import Derived.Deep.QuietTactic
import Derived.BigQuiet
import Derived.Deep.LoopGhost
namespace Go.Proofs.Qxb6609209a
open Go.RowKit
open Av (spB Skips)

theorem isSpace_any (c : Int) (w : World) : Calls Try.prog 12 #[.int .u8 c] w fun e w' => e = .returned (.bool (spB c)) ∧ w' = w := by
  cases h1 : (c == 32) <;> cases h2 : (c == 9) <;> cases h3 : (c == 10) <;> cases h4 : (c == 13) <;>
  · go_enter Try.func12, Try.ntmps12
    go_wp2
    go_ret
    exact ⟨by simp [spB, h1, h2, h3, h4], rfl⟩

theorem isJSONSpace_any (c : Int) (w : World) : Calls Try.prog 9 #[.int .u8 c] w fun e w' => e = .returned (.bool (spB c)) ∧ w' = w := by
  cases h1 : (c == 32) <;> cases h2 : (c == 9) <;> cases h3 : (c == 10) <;> cases h4 : (c == 13) <;>
  · go_enter Try.func9, Try.ntmps9
    go_wp2
    go_ret
    exact ⟨by simp [spB, h1, h2, h3, h4], rfl⟩

/-- The bytes that a slice leads to lie below block B. -/
def Dat (w : World) (B : Nat) (ao : Option Addr) (len : Nat) (z : Nat → Int) : Prop :=
  0 < len → ∃ b, ao = some ⟨b, 0, none⟩ ∧ b < B ∧ ∀ t, t < len → w.cell? ⟨b, t, none⟩ = some (.int .u8 (z t))

theorem Dat.later {w w' : World} {B : Nat} {ao : Option Addr} {len : Nat} {z : Nat → Int} (h : Dat w B ao len z) (hb : Below B w w') : Dat w' B ao len z := by
  intro hl
  obtain ⟨b, h1, h2, h3⟩ := h hl
  exact ⟨b, h1, h2, fun t ht => by rw [hb.cell (p := ⟨b, t, none⟩) h2]; exact h3 t ht⟩

/-- The reader's own struct at block B. -/
structure Kw (w : World) (B : Nat) (ao : Option Addr) (len cap i : Nat) : Prop where
  data : w.cell? ⟨B, 0, none⟩ = some (.slice ao len cap)
  place : w.cell? ⟨B, 1, none⟩ = some (.int .i64 i)
  free : w.frozen? ⟨B, 1, none⟩ = false

theorem Kw.drewN {w : World} {B : Nat} {ao : Option Addr} {len cap i : Nat} (h : Kw w B ao len cap i) (n : Nat) : Kw (w.drewN n) B ao len cap i := ⟨h.data, h.place, h.free⟩

theorem Kw.set {w : World} {B : Nat} {ao : Option Addr} {len cap i : Nat} (h : Kw w B ao len cap i) (j : Nat) : Kw (w.setCell ⟨B, 1, none⟩ (.int .i64 j)) B ao len cap j :=
  ⟨by rw [World.cell?_setCell_other _ _ _ _ (by simp)]; exact h.data, World.cell?_setCell_same _ _ _ h.place, by rw [World.frozen?_setCell]; exact h.free⟩

set_option maxHeartbeats 400000 in
theorem space_any (B : Nat) (ao : Option Addr) (len cap : Nat) (z : Nat → Int) (i : Nat) (w : World) (hl : len ≤ 1048576) (hi : i ≤ len) (hd : Dat w B ao len z) (hk : Kw w B ao len cap i) :
    Calls Try.prog 11 #[.pointer (some ⟨B, 0, none⟩)] w fun e w' => e = .returned (.tuple #[]) ∧ ∃ j, Skips z len i j ∧ Kw w' B ao len cap j ∧ Below B w w' := by
  go_enter Try.func11, Try.ntmps11
  go_wp2
  go_loopg [] (len - i) (fun g wr => ∃ k : Nat, i ≤ k ∧ k ≤ len ∧ g = len - k ∧ (∀ t, i ≤ t → t < k → spB (z t) = true) ∧ Kw wr B ao len cap k ∧ Below B w wr)
  case atStart => exact ⟨i, Nat.le_refl _, hi, rfl, fun t h1 h2 => absurd h1 (by omega), hk, Below.refl _ _⟩
  case round =>
    obtain ⟨k, h1, h2, h3, h4, h5, h6⟩ := hrel
    have c0 := h5.data
    have c1 := h5.place
    have f1 := h5.free
    have HK : Hid (gk = len - k) := h3
    clear h3
    by_cases hlt : k < len
    · obtain ⟨b, rfl, hb, hz⟩ := (hd.later h6) (by omega)
      have c2 := hz k hlt
      have e1 : ((k : Int) < (len : Int)) := by omega
      cases hs : spB (z k)
      · go_wp2_with fail
        go_quiet ((go_at_call 12; exact Calls.quiet_of_same (isSpace_any _ _)))
        go_wp2
        go_end0
        exact ⟨rfl, k, ⟨h1, h2, h4, .inr ⟨hlt, hs⟩⟩, h5.drewN _, below_drewN h6 _⟩
      · go_wp2_with fail
        go_quiet ((go_at_call 12; exact Calls.quiet_of_same (isSpace_any _ _)))
        go_wp2
        go_roundg (len - (k + 1))
        case measure => have := HK.out; omega
        case rel =>
          refine ⟨k + 1, by omega, by omega, rfl, fun t g1 g2 => ?_, ?_, ?_⟩
          · by_cases e : t = k
            · subst e; exact hs
            · exact h4 t g1 (by omega)
          · exact (h5.drewN nq).set (k + 1)
          · exact (below_drewN h6 nq).setCell (Nat.le_refl _) _
    · have e1 : decide ((k : Int) < (len : Int)) = false := by simp; omega
      go_wp2_with fail
      go_quiet (fail)
      go_wp2
      go_end0
      exact ⟨rfl, k, ⟨h1, h2, h4, .inl (by omega)⟩, h5.drewN _, below_drewN h6 _⟩
end Go.Proofs.Qxb6609209a
