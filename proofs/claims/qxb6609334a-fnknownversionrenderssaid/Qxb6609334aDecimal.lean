/-
  THE WALK of decimal (14).
-/
import Derived.Test.Qxb6609334aSearch
import Derived.Laws.BytesArg
namespace Go.Proofs.Qxb6609334a
open Go.RowKit

/-- n without its last k digits. -/
def dv (n : Nat) : Nat → Nat
  | 0 => n
  | k + 1 => dv n k / 10
/-- Its last k digits, as bytes. -/
def ds (n : Nat) : Nat → List Int
  | 0 => []
  | k + 1 => (48 + (dv n k : Int) % 10) :: ds n k

theorem ds_length (n : Nat) : ∀ k, (ds n k).length = k
  | 0 => rfl
  | k + 1 => by simp [ds, ds_length n k]

theorem dv_zero (n : Nat) : ∀ j k, dv n k = 0 → dv n (k + j) = 0
  | 0, _, h => h
  | j + 1, k, h => by
    show dv n (k + j) / 10 = 0
    rw [dv_zero n j k h]

theorem dv_ten (n : Nat) (h : n ≤ 1073741824) : dv n 10 = 0 := by
  simp only [dv]
  omega

theorem dv_le (n : Nat) : ∀ k, dv n k ≤ n
  | 0 => Nat.le_refl _
  | k + 1 => by have := dv_le n k; simp only [dv]; omega

theorem dv_small (n k : Nat) (h : n ≤ 1073741824) (hp : 0 < dv n k) : k < 10 := by
  rcases Nat.lt_or_ge k 10 with g | g
  · exact g
  · have := dv_zero n (k - 10) 10 (dv_ten n h)
    rw [show 10 + (k - 10) = k by omega] at this
    omega

/-- The buffer at block B with the last k digits in it. -/
structure Buf (w : World) (B n k : Nat) : Prop where
  there : ∀ o, o < 24 → ∃ v, w.cell? ⟨B, o, none⟩ = some (.int .u8 v)
  free : ∀ o, o < 24 → w.frozen? ⟨B, o, none⟩ = false
  tail : ∀ t, t < k → w.cell? ⟨B, 24 - k + t, none⟩ = some (.int .u8 ((ds n k).getD t 0))

theorem Buf.step {w : World} {B n k : Nat} (h : Buf w B n k) (hk : k < 24) : Buf (w.setCell ⟨B, 24 - (k + 1), none⟩ (.int .u8 (48 + (dv n k : Int) % 10))) B n (k + 1) := by
  refine ⟨fun o ho => ?_, fun o ho => ?_, fun t ht => ?_⟩
  · by_cases e : o = 24 - (k + 1)
    · subst e
      obtain ⟨v, hv⟩ := h.there _ ho
      exact ⟨_, World.cell?_setCell_same _ _ _ hv⟩
    · rw [World.cell?_setCell_other _ _ _ _ (by intro g; simp only [Addr.mk.injEq] at g; omega)]
      exact h.there o ho
  · rw [World.frozen?_setCell]; exact h.free o ho
  · cases t with
    | zero =>
      obtain ⟨v, hv⟩ := h.there (24 - (k + 1)) (by omega)
      exact World.cell?_setCell_same _ _ _ hv
    | succ t =>
      rw [World.cell?_setCell_other _ _ _ _ (by intro g; simp only [Addr.mk.injEq] at g; omega)]
      have := h.tail t (by omega)
      rw [show 24 - (k + 1) + (t + 1) = 24 - k + t by omega]
      simpa [ds] using this

theorem buf_new (w : World) (n : Nat) : Buf (w.alloc (.cells #[.int .u8 0, .int .u8 0, .int .u8 0, .int .u8 0, .int .u8 0, .int .u8 0, .int .u8 0, .int .u8 0, .int .u8 0, .int .u8 0, .int .u8 0, .int .u8 0, .int .u8 0, .int .u8 0, .int .u8 0, .int .u8 0, .int .u8 0, .int .u8 0, .int .u8 0, .int .u8 0, .int .u8 0, .int .u8 0, .int .u8 0, .int .u8 0] 31)) w.heap.size n 0 := by
  have e : (#[.int .u8 0, .int .u8 0, .int .u8 0, .int .u8 0, .int .u8 0, .int .u8 0, .int .u8 0, .int .u8 0, .int .u8 0, .int .u8 0, .int .u8 0, .int .u8 0, .int .u8 0, .int .u8 0, .int .u8 0, .int .u8 0, .int .u8 0, .int .u8 0, .int .u8 0, .int .u8 0, .int .u8 0, .int .u8 0, .int .u8 0, .int .u8 0] : Array Value) = Array.replicate 24 (.int .u8 0) := rfl
  rw [e]
  refine ⟨fun o ho => ⟨0, ?_⟩, fun o ho => ?_, fun t ht => by omega⟩
  · rw [cell_of_row _ _ _ _ _ _ (heap_alloc_new _ _)]
    simp [ho]
  · simp

theorem arr31 : Try.prog.underlying 31 = some (.array (Try.prog.arrayLen 31) (Try.prog.elem 31)) := by kernel_rfl
theorem len31 : Try.prog.arrayLen 31 = 24 := by kernel_rfl
theorem elem31 : Try.prog.elem 31 = 5 := by kernel_rfl
theorem size5 (w : World) : (sizeOf 5).run Try.prog w = .ok 1 w := by kernel_rfl

theorem cut_at (B i : Nat) (hi : i < 24) (w : World) : (Instr.sliceAt 31 (.pointer (some ⟨B, 0, none⟩)) (some (.int .i64 (i : Int))) none none).run Try.prog w = .ok (.slice (some ⟨B, i, none⟩) (24 - i) (24 - i)) w := by
  rw [run_sliceAt_array_l w 31 ⟨B, 0, none⟩ arr31 .i64 (i : Int) (by omega) (by rw [len31]; omega), elem31, size5, len31]
  simp only [Result.andThen, slicedAt]
  rw [if_neg (by omega)]
  simp [Addr.add]
  intro h
  exact h.symm

theorem conv_tail {w : World} {B n k i : Nat} (h : Buf w B n k) (_hk : k ≤ 24) (e : 24 - i = k) (e' : 24 - k = i) : (convert 32 9 (.slice (some ⟨B, i, none⟩) (24 - i) (24 - i))).run Try.prog w = .ok (.string (strOfNums (ds n k))) w :=
  run_convert_bytes_arg (P := Try.prog) w 32 5 Try.underlying32 Try.underlying5 B i (24 - i) (24 - i) (ds n k) (by rw [ds_length]; exact e.symm) (fun t ht => by
    rw [← e']
    exact h.tail t (by omega)) 9 Try.underlying9

set_option maxRecDepth 100000 in
set_option maxHeartbeats 800000 in
theorem decimal_pos (n : Nat) (h0 : 0 < n) (h1 : n ≤ 1073741824) (w : World) :
    Calls Try.prog 14 #[.int .i64 n] w fun e w' => ∃ k, dv n k = 0 ∧ (∀ j, j < k → 0 < dv n j) ∧ k ≤ 24 ∧ e = .returned (.string (strOfNums (ds n k))) ∧ Grown w w' := by
  have hz : ((n : Int) == 0) = false := by simp; omega
  go_enter Try.func14, Try.ntmps14
  go_wp2
  go_loopg [0, 4] 24 (fun g s0 s4 wx => ∃ k i : Nat, i + k = 24 ∧ g = i ∧ s0 = .int .i64 (dv n k : Nat) ∧ s4 = .int .i64 i ∧ Buf wx w.heap.size n k ∧ (∀ j, j < k → 0 < dv n j) ∧ Grown w wx)
  case atStart => exact ⟨0, 24, rfl, rfl, rfl, rfl, buf_new w n, fun j h => by omega, (Grown.refl _).alloc _ _⟩
  case round =>
    obtain ⟨k, i, hik, hg, rfl, rfl, hb, hp, hgr⟩ := hrel
    obtain ⟨m, hm⟩ : ∃ m, m = dv n k := ⟨_, rfl⟩
    have hmn : m ≤ n := by rw [hm]; exact dv_le n k
    rw [← hm]
    have HM : Hid (m = dv n k) := hm
    have HK : Hid (i + k = 24) := hik
    have HI : Hid (gk = i) := hg
    have HB : Hid (Buf wr w.heap.size n k) := hb
    have HG : Hid (Grown w wr) := hgr
    have HP : Hid (∀ j, j < k → 0 < dv n j) := hp
    have hi24 : i ≤ 24 := by omega
    clear hg hik hgr hp hm
    by_cases hpos : 0 < m
    · have hk10 : k < 10 := dv_small n k h1 (by rw [← HM.out]; exact hpos)
      obtain ⟨o, rfl⟩ : ∃ o, i = o + 1 := ⟨i - 1, by have := HK.out; omega⟩
      obtain ⟨v, hv⟩ := hb.there o (by omega)
      have hf := hb.free o (by omega)
      clear hb
      go_wp2
      go_roundg o
      case measure => have := HI.out; omega
      case rel =>
        have hk := HK.out
        have hs := HB.out.step (by omega)
        rw [← HM.out, show 24 - (k + 1) = o by omega] at hs
        refine ⟨k + 1, o, by omega, rfl, ?_, rfl, hs, fun j hj => ?_, HG.out.setCell (Nat.le_refl _) _⟩
        · show Value.int .i64 ((m : Int) / 10) = .int .i64 ((dv n k / 10 : Nat) : Int)
          rw [← HM.out]; rfl
        · by_cases e : j = k
          · subst e; rw [← HM.out]; exact hpos
          · exact HP.out j (by omega)
    · have hk0 : k ≠ 0 := by
        rintro rfl
        have := HM.out
        simp only [dv] at this
        omega
      have hik := HK.out
      have hsl := cut_at w.heap.size i (by omega) wr
      have hcv := conv_tail hb (by omega) (show 24 - i = k by omega) (show 24 - k = i by omega)
      clear hb hik
      go_wp2
      go_ret
      exact ⟨k, by have := HM.out; omega, HP.out, by have := HK.out; omega, rfl, HG.out⟩

/-- What decimal's text is. -/
structure Dec (n : Nat) (s : ByteArray) : Prop where
  one : n < 10 → s = strOfNums [48 + (n : Int)]
  two : 10 ≤ n → n < 100 → s = strOfNums [48 + (n : Int) / 10, 48 + (n : Int) % 10]
  more : 100 ≤ n → 2 < s.size
  bound : s.size ≤ 24

theorem dec_of {n k : Nat} (h0 : 0 < n) (hz : dv n k = 0) (hp : ∀ j, j < k → 0 < dv n j) (hk : k ≤ 24) : Dec n (strOfNums (ds n k)) := by
  have d0 : dv n 0 = n := rfl
  have d1 : dv n 1 = n / 10 := rfl
  have d2 : dv n 2 = n / 10 / 10 := rfl
  have p0 : k ≠ 0 := by rintro rfl; omega
  have p1 : 1 < k → 0 < n / 10 := fun h => by have := hp 1 h; omega
  have p2 : 2 < k → 0 < n / 10 / 10 := fun h => by have := hp 2 h; omega
  refine ⟨fun h => ?_, fun h1 h2 => ?_, fun h => ?_, ?_⟩
  · obtain rfl : k = 1 := by
      rcases Nat.lt_or_ge 1 k with g | g
      · have := p1 g; omega
      · omega
    simp only [ds, dv]
    congr 2
    omega
  · obtain rfl : k = 2 := by
      rcases Nat.lt_or_ge 2 k with g | g
      · have := p2 g; omega
      · rcases (show k = 1 ∨ k = 2 by omega) with rfl | rfl
        · omega
        · rfl
    simp only [ds, dv]
    congr 2
    omega
  · rw [strOfNums_size, ds_length]
    rcases Nat.lt_or_ge 2 k with g | g
    · exact g
    · rcases (show k = 1 ∨ k = 2 by omega) with rfl | rfl <;> omega
  · rw [strOfNums_size, ds_length]; exact hk

theorem decimal_any (n : Nat) (h1 : n ≤ 1073741824) (w : World) :
    Calls Try.prog 14 #[.int .i64 n] w fun e w' => ∃ s, e = .returned (.string s) ∧ Dec n s ∧ Grown w w' := by
  by_cases h0 : 0 < n
  · refine (decimal_pos n h0 h1 w).mono ?_
    rintro e w' ⟨k, a1, a2, a3, rfl, a5⟩
    exact ⟨_, rfl, dec_of h0 a1 a2 a3, a5⟩
  · obtain rfl : n = 0 := by omega
    go_enter Try.func14, Try.ntmps14
    go_wp2
    go_ret
    exact ⟨_, rfl, ⟨fun _ => rfl, fun h => by omega, fun h => by omega, by decide⟩, Grown.refl _⟩

theorem bt_nums (xs : List Int) (t : Nat) (x : Int) (h : xs[t]? = some x) (h0 : 0 ≤ x) (h1 : x < 256) : bt (strOfNums xs) t = x := by
  unfold bt
  rw [strOfNums_data, List.getD_eq_getElem?_getD, List.getElem?_map, h]
  show ((UInt8.ofNat x.toNat).toNat : Int) = x
  rw [UInt8.toNat_ofNat']
  omega

theorem read_one (n : Nat) (h : n < 10) : pvN (strOfNums [48 + (n : Int)]) = n := by
  have e := bt_nums [48 + (n : Int)] 0 (48 + n) rfl (by omega) (by omega)
  rw [pv_one (by rw [strOfNums_size]; rfl) (by omega)]
  omega
theorem read_two (a b : Int) (ha : 0 ≤ a ∧ a ≤ 9) (hb : 0 ≤ b ∧ b ≤ 9) : pvN (strOfNums [48 + a, 48 + b]) = a * 10 + b := by
  have e := bt_nums [48 + a, 48 + b] 0 (48 + a) rfl (by omega) (by omega)
  have f := bt_nums [48 + a, 48 + b] 1 (48 + b) rfl (by omega) (by omega)
  rw [pv_two (by rw [strOfNums_size]; rfl) (by omega) (by omega)]
  omega
theorem padded (x : Int) : (⟨#[48]⟩ : ByteArray) ++ strOfNums [x] = strOfNums [48 + 0, x] := by
  apply ByteArray.ext
  rw [ByteArray.data_append]
  rfl
end Go.Proofs.Qxb6609334a
