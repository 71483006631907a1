/-
  WHAT IS KNOWN behind 'zzc := make([]byte, len(data)); copy(zzc, data)': the new block holds the bytes.
-/
import Derived.Test.Qxb6609209aScan
import Derived.Test.Qxb6609209aAfter
import Derived.Laws.CopyOwn
import Derived.Deep.OwnRows
namespace Go.Proofs.Qxb6609209a
open Go.RowKit
open Av (spB Skips Av)

theorem info5 : (Try.prog.info? 5).map (fun i => (i.zero, i.size, i.bytes)) = some (some (.int .u8 0), 1, 1) := by kernel_rfl
theorem size5 : (Try.prog.info? 5).map (·.size) = some 1 := by kernel_rfl

theorem made_at (w : World) (n : Nat) : (w.alloc (.cells (madeCells #[.int .u8 0] n) 5)).heap[w.heap.size]? = some (.cells (madeCells #[.int .u8 0] n).toList.toArray 5 (0, 0)) := by
  rw [heap_alloc_new]

theorem src_at (w : World) (o : Obj) (x : Addr) (len : Nat) (z0 : List Int) (hl : len ≤ z0.length) (hcell : ∀ i, i < z0.length → w.cell? (x.add i) = some (.int .u8 (z0.getD i 0))) :
    ∀ j v, ((z0.take len).map (Value.int .u8))[j]? = some v → (w.alloc o).cell? (x.add j) = some v := by
  intro j v hj
  simp only [List.getElem?_map, List.getElem?_take, Option.map_eq_some_iff] at hj
  obtain ⟨n, hn, rfl⟩ := hj
  split at hn
  · refine cell_later ((Below.refl _ _).alloc (Nat.le_refl _) _) ?_
    rw [hcell j (by omega), List.getD_eq_getElem?_getD, hn]; rfl
  · cases hn

theorem dat_copied (w w2 : World) (len : Nat) (z0 : List Int) (hl : len ≤ z0.length)
    (hg : w2.heap[w.heap.size]? = some (.cells (splice (madeCells #[.int .u8 0] len).toList 0 ((z0.take len).map (Value.int .u8))).toArray 5 (0, 0))) :
    Dat w2 w2.heap.size (some ⟨w.heap.size, 0, none⟩) len (fun t => z0.getD t 0) := by
  intro _
  refine ⟨w.heap.size, rfl, lt_of_block hg, fun t ht => ?_⟩
  rw [cell_of_row _ _ _ _ _ _ hg]
  have e : splice (madeCells #[.int .u8 0] len).toList 0 ((z0.take len).map (Value.int .u8)) = (z0.take len).map (Value.int .u8) := by
    unfold splice
    rw [List.drop_eq_nil_of_le (by simp [size_madeCells]; omega)]
    simp
  rw [e]
  simp [ht, List.getElem?_eq_getElem (show t < z0.length by omega)]

theorem ones (len : Nat) (z0 : List Int) : ∀ v ∈ (z0.take len).map (Value.int .u8), v.oneCell' = true := by
  intro v hv
  simp only [List.mem_map] at hv
  obtain ⟨n, _, rfl⟩ := hv
  rfl

theorem both {z : Nat → Int} {n i : Nat} {en : Int} {e : Ending} {m o : Bool} {a : Nat} (h : Says z n i en e) (g : Av z n i en m o a) : e = .returned (.tuple #[.bool m, .bool o, .int .i64 a]) := by
  obtain ⟨m', o', a', rfl, h⟩ := h
  obtain ⟨rfl, rfl, rfl⟩ := h.eq g
  rfl

end Go.Proofs.Qxb6609209a
