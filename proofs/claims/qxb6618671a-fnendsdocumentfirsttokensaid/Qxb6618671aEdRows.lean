import Derived.Test.Qxb6618671aEdReads
import Derived.Laws.CopyOwn
import Derived.Laws.Rows
namespace Go.Proofs.Qxb6618671a.Ed
open Go.RowKit

/-! ### A row of bytes that the call itself made -/
def vals (zs : List Int) : List Value := zs.map (Value.int .u8)
def Row (w : World) (g : Nat) (zs : List Int) : Prop := w.heap[g]? = some (.cells (vals zs).toArray 5 (0, 0))
theorem vals_length (zs : List Int) : (vals zs).length = zs.length := by simp [vals]
theorem vals_get (zs : List Int) (i : Nat) (h : i < zs.length) : (vals zs)[i]? = some (.int .u8 (zs.getD i 0)) := by
  rw [List.getD_eq_getElem?_getD, List.getElem?_eq_getElem h]
  simp [vals, h]
theorem row_cell {w : World} {g : Nat} {zs : List Int} (h : Row w g zs) {i : Nat} (hi : i < zs.length) : w.cell? ⟨g, i, none⟩ = some (.int .u8 (zs.getD i 0)) := by
  rw [cell_of_row w g i _ _ _ h]
  simpa using vals_get zs i hi
theorem row_free {w : World} {g : Nat} {zs : List Int} (h : Row w g zs) (i : Nat) : w.frozen? ⟨g, i, none⟩ = false := frozen_of_row w g i _ _ h
theorem row_lt {w : World} {g : Nat} {zs : List Int} (h : Row w g zs) : g < w.heap.size := lt_of_block h
theorem row_set {w : World} {g : Nat} {zs : List Int} (h : Row w g zs) (i : Nat) (v : Int) : Row (w.setCell ⟨g, i, none⟩ (.int .u8 v)) g (zs.set i v) := by
  unfold Row
  rw [heap_setCell_same w g i _ _ _ h]
  simp [vals, List.map_set]
theorem row_alloc {w : World} {g : Nat} {zs : List Int} (h : Row w g zs) (o : Obj) : Row (w.alloc o) g zs := (Below.heap_alloc w o g (row_lt h)).trans h
theorem row_cells {w : World} {g : Nat} {zs : List Int} (h : Row w g zs) : ∀ i, i < zs.length → w.cell? ⟨g, 0 + i, none⟩ = some (.int .u8 (zs.getD i 0)) := by
  intro i hi; rw [Nat.zero_add]; exact row_cell h hi

/-- endsDocument of a row, however long. -/
theorem ends_less {zs : List Int} (h : zs.length < 3) : endsB zs = false := by
  have : dots3 zs = false := by
    unfold dots3
    refine decide_eq_false (fun e => ?_)
    have := congrArg List.length e
    simp at this; omega
  simp [endsB, this]
theorem zzends_row (g n c : Nat) (zs : List Int) (w : World) (hx : zs.length = n) (hnc : n ≤ c) (hb : Bytes zs) (h : Row w g zs) :
    Calls Try.prog 7 #[.slice (some ⟨g, 0, none⟩) n c] w fun e w' => e = .returned (.bool (endsB zs)) ∧ w' = w.alloc dots := by
  by_cases h3 : n < 3
  · have := zzends_short (some ⟨g, 0, none⟩) n c w h3
    rw [ends_less (by omega)]
    exact this
  · exact zzends_any g 0 n c zs w hx hnc (by omega) hb (fun i hi => row_cells h i (by omega))

/-! ### A new row -/
def fresh (n : Nat) : Obj := .cells (List.replicate n (Value.int .u8 0)).toArray 5
theorem info5 : (Try.prog.info? 5).map (fun i => (i.zero, i.size, i.bytes)) = some (some (.int .u8 0), 1, 1) := by kernel_rfl
theorem size5 : (Try.prog.info? 5).map (·.size) = some 1 := by kernel_rfl
theorem made_zeros (n : Nat) : madeCells (Value.int .u8 0).cells n = (List.replicate n (Value.int .u8 0)).toArray := by
  have e := toList_madeCells_one (.int .u8 0) n
  have : (Value.int .u8 0).cells = #[.int .u8 0] := rfl
  rw [this, ← e]
theorem make_run (l c : Nat) (hlc : l ≤ c) (hc : c ≤ 16777216) (w : World) : (Instr.makeSlice 22 (.int .i64 (l : Int)) (.int .i64 (c : Int))).run Try.prog w = .ok (.slice (some ⟨w.heap.size, 0, none⟩) l c) (w.alloc (fresh c)) := by
  obtain ⟨i0, hi, hz0, hz1, hz2⟩ := info_parts info5
  have h := run_make (P := Try.prog) w 22 5 i0 (.int .u8 0) Try.underlying22 hi hz0 .i64 .i64 l c (by omega) (by omega) (by rw [hz2]; omega) (by omega)
  rw [hz1] at h
  simp only [Int.toNat_natCast, Nat.mul_one, made_zeros] at h
  exact h
theorem fresh_row (w : World) (n : Nat) : (w.alloc (fresh n)).heap[w.heap.size]? = some (.cells (List.replicate n (Value.int .u8 0)).toArray 5 (0, 0)) := heap_alloc_new w _

end Go.Proofs.Qxb6618671a.Ed
