/-
  THE WALK of FnAfterValueStepsOverOneMark (4) behind its guards: a slice that is not nil; a nil slice.
-/
import Derived.Test.Qxb6609209aCopied
namespace Go.Proofs.Qxb6609209a
open Go.RowKit
open Av (spB Skips Av)

/-- The place of the one mark among what was stepped over ('p = a': there is none). -/
structure Marked (z : Nat → Int) (i a p : Nat) : Prop where
  lo : i ≤ p
  hi : p ≤ a
  sp : ∀ t, i ≤ t → t < a → t ≠ p → spB (z t) = true
  mark : p < a → spB (z p) = false

theorem marks_of {z : Nat → Int} {n i a : Nat} {en : Int} {m o : Bool} (h : Av z n i en m o a) : i ≤ a ∧ a ≤ n ∧ ∃ p, Marked z i a p ∧
    ((m = false ∧ o = false ∧ a = p ∧ (a = n ∨ (a < n ∧ spB (z a) = false ∧ z a ≠ en ∧ z a ≠ 44))) ∨
     (m = true ∧ o = true ∧ en ≠ 44 ∧ p < a ∧ z p = 44 ∧ (a = n ∨ (a < n ∧ spB (z a) = false))) ∨
     (m = false ∧ o = true ∧ p + 1 = a ∧ z p = en)) := by
  obtain ⟨j, hj, h⟩ := h
  have h1 := hj.lo
  have h2 := hj.hi
  have hs : j < n → spB (z j) = false := fun hlt => by
    rcases hj.stop with h | h
    · omega
    · exact h.2
  rcases h with ⟨h3, rfl, rfl, rfl⟩ | ⟨h3, h4, rfl, rfl, rfl⟩ | ⟨h3, h4, h5, rfl, rfl, h6⟩ | ⟨h3, h4, h5, rfl, rfl, rfl⟩
  · exact ⟨h1, h2, a, ⟨h1, Nat.le_refl _, fun t g1 g2 _ => hj.sp t g1 g2, fun g => absurd g (Nat.lt_irrefl _)⟩, .inl ⟨rfl, rfl, rfl, .inl h3⟩⟩
  · exact ⟨by omega, by omega, j, ⟨h1, by omega, fun t g1 g2 g3 => hj.sp t g1 (by omega), fun _ => hs h3⟩, .inr (.inr ⟨rfl, rfl, rfl, h4⟩)⟩
  · have := h6.lo
    refine ⟨by omega, h6.hi, j, ⟨h1, by omega, fun t g1 g2 g3 => ?_, fun _ => hs h3⟩, .inr (.inl ⟨rfl, rfl, fun e => h4 (by omega), by omega, h5, h6.stop⟩)⟩
    by_cases g : t < j
    · exact hj.sp t g1 g
    · exact h6.sp t (by omega) g2
  · exact ⟨h1, h2, a, ⟨h1, Nat.le_refl _, fun t g1 g2 _ => hj.sp t g1 g2, fun g => absurd g (Nat.lt_irrefl _)⟩, .inl ⟨rfl, rfl, rfl, .inr ⟨h3, hs h3, h4, h5⟩⟩⟩

/-- What the counting loop has found ahead of place 'k'. -/
def Mk (p k : Nat) (mk lst : Int) : Prop := (k ≤ p ∧ mk = 0 ∧ lst = -1) ∨ (p < k ∧ mk = 1 ∧ lst = p)

theorem isJS (c : Int) (w : World) : Calls Try.prog 9 #[.int .u8 c] w fun e w' => e = .returned (.bool (spB c)) ∧ w = w' :=
  (isJSONSpace_any c w).mono fun _ _ h => ⟨h.1, h.2.symm⟩

set_option maxRecDepth 100000 in
set_option maxHeartbeats 1600000 in
theorem steps_some (x : Addr) (len cap : Nat) (z0 : List Int) (i : Nat) (a2 a3 : Int) (w : World) (hL : len ≤ 1048576) (hi : i ≤ len) (hl : len ≤ z0.length)
    (hcell : ∀ i, i < z0.length → w.cell? (x.add i) = some (.int .u8 (z0.getD i 0))) :
    Calls Try.prog 4 #[.slice (some x) len cap, .int .i64 i, .int .i64 a2, .int .u8 a3] w fun e w' => e = .returned (.bool true) ∧ Below w.heap.size w w' := by
  have q22 : ∀ (w : World) (a : Option Addr) (n c n' c' : Nat), (binOp .neq 22 (.slice a n c) (.slice none n' c')).run Try.prog w = .ok (.bool !a.isNone) w := fun w a n c n' c' => run_neq_slice_nil_any w _ _ a n c n' c' Try.underlying22
  have hmk := fun w => run_make_row' (P := Try.prog) 22 5 (.int .u8 0) 1 Try.underlying22 info5 rfl .i64 .i64 len (by omega) (by omega) w
  go_enter Try.func4, Try.ntmps4
  go_wp2_with (first | (go_at_call 8; refine (bytes8_in _ _ _ _ _ _ _ hL).mono ?_; rintro e w' ⟨rfl, rfl⟩) | (refine wpList_copy_splice rfl (.tmp 39) (.tmp 40) 22 22 rfl 5 Try.underlying22 size5 _ _ _ _ _ _ rfl rfl w.heap.size 0 (madeCells #[.int .u8 0] len).toList 5 (made_at w len) ((z0.take len).map (Value.int .u8)) (by simp [hl]) (fun _ => ⟨rfl, x, rfl, src_at w _ x len z0 hl hcell⟩) (by simp [size_madeCells]; omega) (ones len z0) w.heap.size w ((Below.refl _ _).alloc (Nat.le_refl _) _) (Nat.le_refl _) ?_; intro w2 HG hB2) | fail)
  have hd := dat_copied w w2 len z0 hl HG.out
  obtain ⟨z, hz⟩ : ∃ z : Nat → Int, z = fun t => z0.getD t 0 := ⟨_, rfl⟩
  rw [← hz] at hd
  refine (zz_any _ len len z i a2 a3 _ hL hi hd).mono ?_
  rintro e w3 ⟨m, o, a, rfl, hav, ha, hb3⟩
  have hc : ∀ t, t < len → w3.cell? ⟨w.heap.size, t, none⟩ = some (.int .u8 (z t)) := by
    intro t ht
    obtain ⟨b, hb, _, hc⟩ := (hd.later hb3) (by omega)
    simp only [Option.some.injEq, Addr.mk.injEq] at hb
    obtain ⟨rfl, _, _⟩ := hb
    exact hc t ht
  obtain ⟨h1, h2, p, hM, hcase⟩ := marks_of hav
  have hB3 : Below w.heap.size w w3 := hB2.trans (hb3.mono hB2.size)
  have HB : Hid (Below w.heap.size w w3) := hB3
  have hn1 : ¬ a < i := by omega
  have hn2 : ¬ len < a := by omega
  clear hav hd hz HG hcell hmk q22 hb3 hB2 hB3
  rcases hcase with ⟨rfl, rfl, rfl, hend⟩ | ⟨rfl, rfl, hne, hpa, hzp, hend⟩ | ⟨rfl, rfl, hpa, hzp⟩
  · have HE : Hid (a = len ∨ (a < len ∧ spB (z a) = false ∧ z a ≠ a3 ∧ z a ≠ 44)) := hend
    clear hend
    go_wp2_with fail
    go_loopg [13, 14, 15] (a - i) (fun g s13 s14 s15 wx => w3 = wx ∧ ∃ (k : Nat) (mk lst : Int), g = a - k ∧ s13 = .int .i64 mk ∧ s14 = .int .i64 lst ∧ s15 = .int .i64 k ∧ i ≤ k ∧ k ≤ a ∧ Mk a k mk lst)
    case atStart => exact ⟨rfl, i, 0, -1, rfl, rfl, rfl, rfl, Nat.le_refl _, h1, .inl ⟨hM.lo, rfl, rfl⟩⟩
    case round =>
      obtain ⟨rfl, k, mk, lst, hg, rfl, rfl, rfl, k1, k2, hk⟩ := hrel
      have HG : Hid (gk = a - k) := hg
      clear hg
      by_cases hlt : k < a
      · have c2 := hc k (by omega)
        have e1 : (k : Int) < (len : Int) := by omega
        have hs := hM.sp k k1 hlt (by omega)
        have HK : Hid (Mk a k mk lst) := hk
        clear hk
        go_wp2_with (go_at_call 9; refine (isJS _ _).mono ?_; rintro e w' ⟨rfl, rfl⟩)
        go_roundg (a - (k + 1))
        case rel => exact ⟨rfl, k + 1, mk, lst, rfl, rfl, rfl, by go_num, by omega, by omega, by have := HK.out; unfold Mk at this ⊢; omega⟩
        case measure => have := HG.out; omega
      · obtain rfl : k = a := by omega
        rcases hk with ⟨_, rfl, rfl⟩ | ⟨g, _, _⟩
        · rcases HE.out with hend | ⟨hend, hs, hn3, hn4⟩
          · have e1 : ((k : Int) == (len : Int)) = true := by simp; omega
            clear hend
            go_wp2
            go_ret
            exact ⟨rfl, HB.out⟩
          · have e1 : ((k : Int) == (len : Int)) = false := by simp; omega
            have e2 : (z k != a3) = true := by simpa using hn3
            have e3 : (z k != 44) = true := by simpa using hn4
            have e4 : (k : Int) < (len : Int) := by omega
            have c2 := hc k hend
            clear hn3 hn4 hc
            go_wp2_with (go_at_call 9; refine (isJS _ _).mono ?_; rintro e w' ⟨rfl, rfl⟩)
            go_ret
            exact ⟨rfl, HB.out⟩
        · exact absurd g (Nat.lt_irrefl _)
  · have e44 : (a3 == 44) = false := by simpa using hne
    have HE : Hid (a = len ∨ (a < len ∧ spB (z a) = false)) := hend
    clear hne hend
    go_wp2_with fail
    go_loopg [13, 14, 15] (a - i) (fun g s13 s14 s15 wx => w3 = wx ∧ ∃ (k : Nat) (mk lst : Int), g = a - k ∧ s13 = .int .i64 mk ∧ s14 = .int .i64 lst ∧ s15 = .int .i64 k ∧ i ≤ k ∧ k ≤ a ∧ Mk p k mk lst)
    case atStart => exact ⟨rfl, i, 0, -1, rfl, rfl, rfl, rfl, Nat.le_refl _, h1, .inl ⟨hM.lo, rfl, rfl⟩⟩
    case round =>
      obtain ⟨rfl, k, mk, lst, hg, rfl, rfl, rfl, k1, k2, hk⟩ := hrel
      have HG : Hid (gk = a - k) := hg
      clear hg
      by_cases hlt : k < a
      · have c2 := hc k (by omega)
        have e1 : (k : Int) < (len : Int) := by omega
        by_cases hkp : k = p
        · subst hkp
          have hs := hM.mark hlt
          rcases hk with ⟨_, rfl, rfl⟩ | ⟨g, _, _⟩
          · go_wp2_with (go_at_call 9; refine (isJS _ _).mono ?_; rintro e w' ⟨rfl, rfl⟩)
            go_roundg (a - (k + 1))
            case rel => exact ⟨rfl, k + 1, 1, k, rfl, rfl, rfl, by go_num, by omega, by omega, .inr ⟨by omega, rfl, rfl⟩⟩
            case measure => have := HG.out; omega
          · exact absurd g (Nat.lt_irrefl _)
        · have hs := hM.sp k k1 hlt hkp
          have HK : Hid (Mk p k mk lst) := hk
          clear hk
          go_wp2_with (go_at_call 9; refine (isJS _ _).mono ?_; rintro e w' ⟨rfl, rfl⟩)
          go_roundg (a - (k + 1))
          case rel => exact ⟨rfl, k + 1, mk, lst, rfl, rfl, rfl, by go_num, by omega, by omega, by have := HK.out; unfold Mk at this ⊢; omega⟩
          case measure => have := HG.out; omega
      · obtain rfl : k = a := by omega
        rcases hk with ⟨g, _, _⟩ | ⟨_, rfl, rfl⟩
        · exact absurd g (by omega)
        · have c3 := hc p (by omega)
          have e0 : (p : Int) < (len : Int) := by omega
          have ez : (z p == 44) = true := by simpa using hzp
          clear hzp
          rcases HE.out with hend | ⟨hend, hs⟩
          · have e1 : ((k : Int) == (len : Int)) = true := by simp; omega
            clear hend
            go_wp2
            go_ret
            exact ⟨rfl, HB.out⟩
          · have e1 : ((k : Int) == (len : Int)) = false := by simp; omega
            have e4 : (k : Int) < (len : Int) := by omega
            have c2 := hc k hend
            clear hc
            go_wp2_with (go_at_call 9; refine (isJS _ _).mono ?_; rintro e w' ⟨rfl, rfl⟩)
            go_ret
            exact ⟨rfl, HB.out⟩
  · have HP : Hid (p + 1 = a) := hpa
    have hlt0 : p < a := by omega
    have hp0 : a ≤ p + 1 := by omega
    have HZ : Hid (z p = a3) := hzp
    clear hpa hzp
    go_wp2_with fail
    go_loopg [13, 14, 15] (a - i) (fun g s13 s14 s15 wx => w3 = wx ∧ ∃ (k : Nat) (mk lst : Int), g = a - k ∧ s13 = .int .i64 mk ∧ s14 = .int .i64 lst ∧ s15 = .int .i64 k ∧ i ≤ k ∧ k ≤ a ∧ Mk p k mk lst)
    case atStart => exact ⟨rfl, i, 0, -1, rfl, rfl, rfl, rfl, Nat.le_refl _, h1, .inl ⟨hM.lo, rfl, rfl⟩⟩
    case round =>
      obtain ⟨rfl, k, mk, lst, hg, rfl, rfl, rfl, k1, k2, hk⟩ := hrel
      have HG : Hid (gk = a - k) := hg
      clear hg
      by_cases hlt : k < a
      · have c2 := hc k (by omega)
        have e1 : (k : Int) < (len : Int) := by omega
        by_cases hkp : k = p
        · subst hkp
          have hs := hM.mark hlt
          rcases hk with ⟨_, rfl, rfl⟩ | ⟨g, _, _⟩
          · go_wp2_with (go_at_call 9; refine (isJS _ _).mono ?_; rintro e w' ⟨rfl, rfl⟩)
            go_roundg (a - (k + 1))
            case rel => exact ⟨rfl, k + 1, 1, k, rfl, rfl, rfl, by go_num, by omega, by omega, .inr ⟨by omega, rfl, rfl⟩⟩
            case measure => have := HG.out; omega
          · exact absurd g (Nat.lt_irrefl _)
        · have hs := hM.sp k k1 hlt hkp
          have HK : Hid (Mk p k mk lst) := hk
          clear hk
          go_wp2_with (go_at_call 9; refine (isJS _ _).mono ?_; rintro e w' ⟨rfl, rfl⟩)
          go_roundg (a - (k + 1))
          case rel => exact ⟨rfl, k + 1, mk, lst, rfl, rfl, rfl, by go_num, by omega, by omega, by have := HK.out; unfold Mk at this ⊢; omega⟩
          case measure => have := HG.out; omega
      · obtain rfl : k = a := by omega
        rcases hk with ⟨g, _, _⟩ | ⟨_, rfl, rfl⟩
        · exact absurd g (by omega)
        · have c3 := hc p (by omega)
          have e0 : (p : Int) < (len : Int) := by omega
          have ez : (z p == a3) = true := by simpa using HZ.out
          have ep : ((p : Int) == (k : Int) - 1) = true := by have := HP.out; simp; omega
          by_cases hend : k = len
          · have e1 : ((k : Int) == (len : Int)) = true := by simp; omega
            clear hend
            go_wp2
            go_ret
            exact ⟨rfl, HB.out⟩
          · have e1 : ((k : Int) == (len : Int)) = false := by simp; omega
            have e4 : (k : Int) < (len : Int) := by omega
            have c2 := hc k (by omega)
            clear hc
            go_wp2_with (go_at_call 9; refine (isJS _ _).mono ?_; rintro e w' ⟨rfl, rfl⟩)
            go_ret
            exact ⟨rfl, HB.out⟩

set_option maxRecDepth 100000 in
set_option maxHeartbeats 1600000 in
theorem steps_nil (a2 a3 : Int) (w : World) :
    Calls Try.prog 4 #[.slice none 0 0, .int .i64 (0 : Nat), .int .i64 a2, .int .u8 a3] w fun e w' => e = .returned (.bool true) ∧ Below w.heap.size w w' := by
  have q22 : ∀ (w : World) (a : Option Addr) (n c n' c' : Nat), (binOp .neq 22 (.slice a n c) (.slice none n' c')).run Try.prog w = .ok (.bool !a.isNone) w := fun w a n c n' c' => run_neq_slice_nil_any w _ _ a n c n' c' Try.underlying22
  have hd : ∀ w B, Dat w B none 0 (fun _ => 0) := fun _ _ h => by omega
  go_enter Try.func4, Try.ntmps4
  go_wp2_with (go_at_call 8; refine (bytes8_in _ _ _ _ _ _ _ (by omega)).mono ?_; rintro e w' ⟨rfl, rfl⟩)
  refine (zz_any _ 0 0 _ 0 a2 a3 _ (by omega) (by omega) (hd _ _)).mono ?_
  rintro e w3 ⟨m, o, a, rfl, hav, ha, hb3⟩
  obtain ⟨h1, h2, p, hM, hcase⟩ := marks_of hav
  obtain rfl : a = 0 := by omega
  have HB : Hid (Below w.heap.size w w3) := hb3
  clear hav hd q22 hb3
  rcases hcase with ⟨rfl, rfl, rfl, hend⟩ | ⟨rfl, rfl, hne, hpa, hzp, hend⟩ | ⟨rfl, rfl, hpa, hzp⟩
  · clear hend hM
    go_wp2_with fail
    refine wp_loop_rounds 1 ?_
    rw [rounds_succ]
    go_wp2
    go_ret
    exact ⟨rfl, HB.out⟩
  · omega
  · omega
end Go.Proofs.Qxb6609209a
