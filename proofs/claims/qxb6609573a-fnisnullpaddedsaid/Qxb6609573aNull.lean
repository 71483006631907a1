/-
  THE WALKS of isNull (6), ZZisNullOf (5), the bound (4).
-/
import Derived.Test.Qxb6609573aRows
import Derived.WalkKit
import Derived.WalkSpells
import Derived.WalkLawsBesides
import Derived.Below
import Derived.Laws.BytesArg
import Derived.OwnWalk
namespace Go.Proofs.Qxb6609573a
open Go.RowKit

theorem ret_bool {a b : Bool} (h : a = b) : Ending.returned (.bool a) = .returned (.bool b) := by rw [h]

/-- Are these bytes the text null? -/
def isN (ts : List Int) : Bool := (strOfNums ts).toList == [110, 117, 108, 108]

set_option maxHeartbeats 400000 in
theorem null_any (g n cap : Nat) (ts : List Int) (b : Bool) (w : World) (hn : ts.length = n) (hc : ∀ t, t < n → w.cell? ⟨g, t, none⟩ = some (.int .u8 (ts.getD t 0))) :
    Calls Try.prog 5 #[.slice (some ⟨g, 0, none⟩) n cap, .bool b] w fun e w' => e = .returned (.bool (!b && isN ts)) ∧ Below w.heap.size w w' := by
  have hcv : ∀ o, (convert 22 9 (.slice (some ⟨g, 0, none⟩) n cap)).run Try.prog (w.alloc o) = .ok (.string (strOfNums ts)) (w.alloc o) := fun o =>
    run_convert_bytes_arg (P := Try.prog) (w.alloc o) 22 5 Try.underlying22 Try.underlying5 g 0 n cap ts hn (fun t ht => by
      rw [Nat.zero_add]
      exact cell_later ((Below.refl _ _).alloc (Nat.le_refl _) _) (hc t ht)) 9 Try.underlying9
  clear hc
  cases b
  · go_enter Try.func5, Try.ntmps5
    go_wp2
    go_ret
    exact ⟨rfl, (Below.refl _ _).alloc (Nat.le_refl _) _⟩
  · go_enter Try.func5, Try.ntmps5
    go_wp2
    go_ret
    exact ⟨rfl, (Below.refl _ _).alloc (Nat.le_refl _) _⟩

theorem isN_bare : isN ([] ++ [110, 117, 108, 108] ++ []) = true := by
  unfold isN
  rw [ByteArray.toList_eq, strOfNums_data]
  decide
theorem isN_padded (P Q : List Int) (h : 0 < P.length + Q.length) : isN (P ++ [110, 117, 108, 108] ++ Q) = false := by
  unfold isN
  rw [ByteArray.toList_eq, strOfNums_data, beq_eq_false_iff_ne]
  intro e
  have := congrArg List.length e
  simp at this
  omega

/-- The bound of both together. -/
theorem bytes_any (a0 : Option Addr) (l0 c0 : Nat) (a1 : Option Addr) (l1 c1 : Nat) (b : Bool) (w : World) (h0 : l0 ≤ 9223372036854775807) (h1 : l1 ≤ 9223372036854775807) :
    Calls Try.prog 4 #[.slice a0 l0 c0, .slice a1 l1 c1, .bool b] w fun e w' => e = .returned (.bool (decide (l0 + l1 ≤ 1048576))) ∧ w = w' := by
  by_cases g0 : l0 ≤ 1048576
  · by_cases g1 : l1 ≤ 1048576
    · by_cases g2 : l0 + l1 ≤ 1048576
      · go_enter Try.func4, Try.ntmps4
        go_wp2
        go_ret
        exact ⟨ret_bool (decide_eq_true g2).symm, rfl⟩
      · go_enter Try.func4, Try.ntmps4
        go_wp2
        go_ret
        exact ⟨ret_bool (decide_eq_false g2).symm, rfl⟩
    · go_enter Try.func4, Try.ntmps4
      go_wp2
      go_ret
      exact ⟨ret_bool (decide_eq_false (by omega)).symm, rfl⟩
  · go_enter Try.func4, Try.ntmps4
    go_wp2
    go_ret
    exact ⟨ret_bool (decide_eq_false (by omega)).symm, rfl⟩

/-- A slice of bytes that came in, for the append laws. -/
structure Src (w : World) (a : Option Addr) (len cap : Nat) (Z : List Int) : Prop where
  none : a = none → len = 0 ∧ cap = 0
  len : Z.length = len
  cell : ∀ ad, a = some ad → ∀ j u, (Z.map (Value.int .u8))[j]? = some u → w.cell? (ad.add j) = some u

theorem Src.later {w w' : World} {a : Option Addr} {len cap : Nat} {Z : List Int} (h : Src w a len cap Z) (hb : Below w.heap.size w w') : ∀ ad, a = some ad → ∀ j u, (Z.map (Value.int .u8))[j]? = some u → w'.cell? (ad.add j) = some u :=
  fun ad ha j u hu => cell_later hb (h.cell ad ha j u hu)

theorem info5 : (Try.prog.info? 5).map (fun i => (i.zero, i.size, i.bytes)) = some (some (.int .u8 0), 1, 1) := by kernel_rfl

/-- The four bytes of the literal. -/
def nul : List Value := [.int .u8 110, .int .u8 117, .int .u8 108, .int .u8 108]

theorem nul_at (w : World) : ∀ j u, nul[j]? = some u → (w.alloc (.cells #[.int .u8 110, .int .u8 117, .int .u8 108, .int .u8 108] 5)).cell? ((⟨w.heap.size, 0, none⟩ : Addr).add j) = some u := by
  intro j u hu
  have e : (⟨w.heap.size, 0, none⟩ : Addr).add j = ⟨w.heap.size, j, none⟩ := by
    rw [Addr.add_lit, Nat.zero_add]
  rw [e, cell_of_row _ _ _ _ _ _ (heap_alloc_new _ _)]
  rw [← hu]
  show (nul.toArray)[j]? = nul[j]?
  rw [List.getElem?_toArray]

theorem nul_one : ∀ u ∈ nul, u.oneCell' = true := by
  intro u hu
  simp [nul] at hu
  rcases hu with rfl | rfl | rfl <;> rfl

theorem below2 {w w0 w1 w2 : World} {o : Obj} (hB0 : Below w.heap.size w w0) (g1 : w0.grownBy w1 (some w.heap.size)) (g2 : (w1.alloc o).grownBy w2 (some w.heap.size)) : Below w.heap.size w w2 := by
  have b1 : Below w.heap.size w w1 := hB0.grown g1 hB0.size (fun k h => by cases h; exact Nat.le_refl _)
  exact (b1.alloc b1.size o).grown g2 (Nat.le_trans b1.size (by simp)) (fun k h => by cases h; exact Nat.le_refl _)

theorem below3 {w w2 w3 : World} (hB2 : Below w.heap.size w w2) (g3 : w2.grownBy w3 (some w.heap.size)) : Below w.heap.size w w3 :=
  hB2.grown g3 hB2.size (fun k h => by cases h; exact Nat.le_refl _)

theorem cells_all {w : World} {B n cap : Nat} {Z0 Z1 : List Int} (h : w.ownsRow B 5 1 (.slice (some ⟨B, 0, none⟩) n cap) n (Z0.map (Value.int .u8) ++ nul ++ Z1.map (Value.int .u8))) :
    ∀ t, t < n → w.cell? ⟨B, t, none⟩ = some (.int .u8 ((Z0 ++ [110, 117, 108, 108] ++ Z1).getD t 0)) := by
  intro t ht
  have hl := h.1
  rw [h.cellAt t (by omega)]
  have e : Z0.map (Value.int .u8) ++ nul ++ Z1.map (Value.int .u8) = (Z0 ++ [110, 117, 108, 108] ++ Z1).map (Value.int .u8) := by simp [nul]
  rw [e] at hl ⊢
  rw [List.length_map] at hl
  rw [List.getElem?_map, List.getElem?_eq_getElem (by omega), List.getD_eq_getElem?_getD, List.getElem?_eq_getElem (by omega)]
  rfl

theorem isN_val {Z0 Z1 : List Int} {l0 l1 : Nat} (h0 : Z0.length = l0) (h1 : Z1.length = l1) : isN (Z0 ++ [110, 117, 108, 108] ++ Z1) = (((l0 : Int) == 0) && ((l1 : Int) == 0)) := by
  by_cases h : l0 = 0 ∧ l1 = 0
  · obtain ⟨rfl, rfl⟩ := h
    obtain rfl := List.eq_nil_of_length_eq_zero h0
    obtain rfl := List.eq_nil_of_length_eq_zero h1
    exact isN_bare
  · rw [isN_padded _ _ (by omega)]
    symm
    simp
    omega

set_option maxRecDepth 100000 in
set_option maxHeartbeats 1600000 in
theorem law_in (a0 : Option Addr) (l0 c0 : Nat) (Z0 : List Int) (a1 : Option Addr) (l1 c1 : Nat) (Z1 : List Int) (b : Bool) (w : World) (s0 : Src w a0 l0 c0 Z0) (s1 : Src w a1 l1 c1 Z1) (g0 : l0 ≤ 65536) (g1 : l1 ≤ 65536) :
    Calls Try.prog 3 #[.slice a0 l0 c0, .slice a1 l1 c1, .bool b] w fun e w' => e = .returned (.bool true) ∧ Below w.heap.size w w' := by
  obtain ⟨i0, hi, hz0, hz1, hz2⟩ := info_parts info5
  have hd : decide (l0 + l1 ≤ 1048576) = true := decide_eq_true (by omega)
  go_enter Try.func3, Try.ntmps3
  go_wp2_with (first | (go_at_call 4; refine (bytes_any _ _ _ _ _ _ _ _ (by omega) (by omega)).mono ?_; rintro e w' ⟨rfl, rfl⟩) | (at_make; refine wpList_make_own _ rfl _ _ 22 rfl w.heap.size 5 i0 (.int .u8 0) 1 Try.underlying22 hi hz0 hz1 _ _ _ (l0 + 4 + l1) rfl rfl (by omega) ?b2 ?b3 (Nat.le_refl _) ?_))
  case b2 => rw [hz2]; omega
  case b3 => unfold maxLen; omega
  intro w0 hown0 hgrow0
  have hB0 : Below w.heap.size w w0 := (Below.refl _ _).grown hgrow0 (Nat.le_refl _) (fun k h => by cases h)
  obtain ⟨nn, hnn⟩ : ∃ x, x = isN (Z0 ++ [110, 117, 108, 108] ++ Z1) := ⟨_, rfl⟩
  have hw : nn = (((l0 : Int) == 0) && ((l1 : Int) == 0)) := by rw [hnn]; exact isN_val s0.len s1.len
  have HN : Hid (nn = isN (Z0 ++ [110, 117, 108, 108] ++ Z1)) := hnn
  clear hnn
  cases b <;> cases e0 : ((l0 : Int) == 0) <;> cases e1 : ((l1 : Int) == 0) <;> rw [e0, e1] at hw <;> simp only [Bool.and_self, Bool.and_true, Bool.and_false] at hw <;> subst hw
  all_goals
    go_wp2_with (first | (at_builtin; refine wpList_append_fits_any _ rfl (.tmp 29) (.tmp 30) 22 rfl w.heap.size 5 i0 1 Try.underlying22 hi hz1 w.heap.size 0 (l0 + 4 + l1) [] rfl hown0 _ l0 _ (Z0.map (Value.int .u8)) rfl (by simp [s0.len]) s0.none (s0.later hB0) (ints_oneCell _ _) (by omega) ?_; intro w1 hown1 hgrow1; simp only [Nat.zero_add, List.nil_append] at hown1) | (at_builtin; refine wpList_append_fits _ rfl (.tmp 32) (.tmp 33) 22 rfl w.heap.size 5 i0 1 Try.underlying22 hi hz1 w.heap.size l0 (l0 + 4 + l1) (Z0.map (Value.int .u8)) rfl (hown1.alloc _) ⟨w1.heap.size, 0, none⟩ 4 4 nul rfl rfl (nul_at w1) nul_one (by omega) ?_; intro w2 hown2 hgrow2; have hB2 : Below w.heap.size w w2 := below2 hB0 hgrow1 hgrow2) | (at_builtin; refine wpList_append_fits_any _ rfl (.tmp 35) (.tmp 36) 22 rfl w.heap.size 5 i0 1 Try.underlying22 hi hz1 w.heap.size (l0 + 4) (l0 + 4 + l1) (Z0.map (Value.int .u8) ++ nul) rfl hown2 _ l1 _ (Z1.map (Value.int .u8)) rfl (by simp [s1.len]) s1.none (s1.later hB2) (ints_oneCell _ _) (by omega) ?_; intro w3 hown3 hgrow3) | fail)
    refine (null_any w.heap.size (l0 + 4 + l1) (l0 + 4 + l1) (Z0 ++ [110, 117, 108, 108] ++ Z1) _ w3 (by simp [s0.len, s1.len]; omega) (cells_all hown3)).mono ?_
    rw [← HN.out]
    rintro e w4 ⟨rfl, hb4⟩
    go_wp2_with fail
    go_ret
    exact ⟨rfl, (below3 hB2 hgrow3).trans (hb4.mono (below3 hB2 hgrow3).size)⟩
end Go.Proofs.Qxb6609573a
