/-
  THE PLAIN MATHEMATICS of seat b6609209a: no Go in sight. 'z : Nat → Int': the bytes; 'n': how many.
-/
import Derived.Below
namespace Go.Proofs.Qxb6609209a
namespace Av

/-- JSON space. -/
def spB (c : Int) : Bool := c == 32 || c == 9 || c == 10 || c == 13

/-- 'j' is the first place from 'i' on that holds no space (or the end). -/
structure Skips (z : Nat → Int) (n i j : Nat) : Prop where
  lo : i ≤ j
  hi : j ≤ n
  sp : ∀ t, i ≤ t → t < j → spB (z t) = true
  stop : j = n ∨ (j < n ∧ spB (z j) = false)

theorem Skips.eq {z : Nat → Int} {n i j k : Nat} (h : Skips z n i j) (g : Skips z n i k) : j = k := by
  rcases Nat.lt_trichotomy j k with c | c | c
  · have := g.sp j h.lo c
    rcases h.stop with s | ⟨_, s⟩
    · have := g.hi; omega
    · rw [this] at s; cases s
  · exact c
  · have := h.sp k g.lo c
    rcases g.stop with s | ⟨_, s⟩
    · have := h.hi; omega
    · rw [this] at s; cases s

/-- What 'afterValue' answers from place 'i' on: more, ok, and the place it is left at. -/
def Av (z : Nat → Int) (n i : Nat) (e : Int) (more ok : Bool) (aft : Nat) : Prop :=
  ∃ j, Skips z n i j ∧
    ((j = n ∧ more = false ∧ ok = false ∧ aft = j) ∨
     (j < n ∧ z j = e ∧ more = false ∧ ok = true ∧ aft = j + 1) ∨
     (j < n ∧ z j ≠ e ∧ z j = 44 ∧ more = true ∧ ok = true ∧ Skips z n (j + 1) aft) ∨
     (j < n ∧ z j ≠ e ∧ z j ≠ 44 ∧ more = false ∧ ok = false ∧ aft = j))

theorem Av.eq {z : Nat → Int} {n i : Nat} {e : Int} {m m' o o' : Bool} {a a' : Nat} (h : Av z n i e m o a) (g : Av z n i e m' o' a') : m = m' ∧ o = o' ∧ a = a' := by
  obtain ⟨j, hj, h⟩ := h
  obtain ⟨k, hk, g⟩ := g
  obtain rfl := hj.eq hk
  rcases h with ⟨h1, rfl, rfl, rfl⟩ | ⟨h1, h2, rfl, rfl, rfl⟩ | ⟨h1, h2, h3, rfl, rfl, h4⟩ | ⟨h1, h2, h3, rfl, rfl, rfl⟩ <;>
  rcases g with ⟨g1, rfl, rfl, rfl⟩ | ⟨g1, g2, rfl, rfl, rfl⟩ | ⟨g1, g2, g3, rfl, rfl, g4⟩ | ⟨g1, g2, g3, rfl, rfl, rfl⟩ <;>
  first
    | exact ⟨rfl, rfl, rfl⟩
    | exact ⟨rfl, rfl, h4.eq g4⟩
    | exact absurd g1 (by omega)
    | exact absurd h1 (by omega)
    | exact absurd g2 h2
    | exact absurd h2 g2
    | exact absurd g3 h3
    | exact absurd h3 g3

end Av
end Go.Proofs.Qxb6609209a
