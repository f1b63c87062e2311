/-
  SEAT oecw: what the three laws on MapIterator share: a block of cells told by the plain list of its values ('Row'), and the closed facts of the program's tables.
-/
import Derived.Test.YoecwwRows
import Derived.WalkKit
import Derived.ProofKit
import Derived.WalkLawsBesides
import Derived.Deep.QuietTactic
import Derived.BigQuiet
import Derived.Deep.OwnRows
import Derived.Maps.OwnSet
namespace Go.Proofs.Yoecww
open Go.RowKit

/-- BLOCK b OF w IS A ROW OF THE CELLS xs, none of them frozen. -/
def Row (w : World) (b : Nat) (e : TypeId) (xs : List Value) : Prop := w.heap[b]? = some (.cells xs.toArray e (0, 0))

namespace Row
variable {w w' : World} {b : Nat} {e : TypeId} {xs : List Value}

theorem cell (h : Row w b e xs) (j : Nat) : w.cell? ⟨b, j, none⟩ = xs[j]? := by
  unfold Row at h
  simp [World.cell?, h]

theorem frozen (h : Row w b e xs) (j : Nat) : w.frozen? ⟨b, j, none⟩ = false := by
  unfold Row at h
  simp [World.frozen?, h]

theorem lt (h : Row w b e xs) : b < w.heap.size := (Array.getElem?_eq_some_iff.1 h).1

theorem alloc (h : Row w b e xs) (o : Obj) : Row (w.alloc o) b e xs := (Below.heap_alloc w o b h.lt).trans h

theorem made (w : World) (e : TypeId) (xs : List Value) : Row (w.alloc (.cells xs.toArray e)) w.heap.size e xs := heap_alloc_new w _

theorem drewN (h : Row w b e xs) (n : Nat) : Row (w.drewN n) b e xs := h

theorem put_same (h : Row w b e xs) (j : Nat) (v : Value) : Row (w.setCell ⟨b, j, none⟩ v) b e (xs.set j v) := by
  unfold Row at *
  simp [World.setCell, Array.getElem?_modify, h]

theorem put_other (h : Row w b e xs) {a : Addr} (hne : b ≠ a.block) (v : Value) : Row (w.setCell a v) b e xs := (Below.heap_setCell w a v b hne).trans h

theorem below {B : Nat} (h : Row w b e xs) (hb : Below B w w') (hB : b < B) : Row w' b e xs := (hb.block b hB).trans h

theorem grown {row : Option Nat} (h : Row w b e xs) (hg : w.grownBy w' row) (hne : some b ≠ row) : Row w' b e xs := (hg.block b h.lt hne).trans h

end Row

theorem below_drewN {B : Nat} {a w : World} (h : Below B a w) (n : Nat) : Below B a (w.drewN n) := ⟨h.os, h.tape, h.output, h.size, h.block⟩

/-- 'make(map[string]Object, n)': the hint is an int. -/
theorem run_makeMap_hint (n : Int) (w : World) : (Instr.makeMap 29 (some (.int .i64 n))).run Ecwg.prog w = .ok (.map (some w.heap.size)) (w.alloc (.map #[] 0)) := by
  simp [Instr.makeMap, run_underlying Ecwg.underlying29, asInt, asIntOf]

theorem info9 : (Ecwg.prog.info? 9).map (fun i => (i.zero, i.size, i.bytes)) = some (some (.string ByteArray.empty), 1, 16) := by kernel_rfl
theorem info51 : (Ecwg.prog.info? 51).map (fun i => (i.zero, i.size, i.bytes)) = some (some (.pointer none), 1, 8) := by kernel_rfl
theorem info2 : (Ecwg.prog.info? 2).map (fun i => (i.zero, i.size, i.bytes)) = some (some (.int .i64 0), 1, 8) := by kernel_rfl

theorem madeCells_list (z : Value) (n : Nat) : madeCells #[z] n = (List.replicate n z).toArray := by
  rw [← toList_madeCells_one]

theorem run_make_strings (n : Nat) (h : n ≤ 1048576) (w : World) :
    (Instr.makeSlice 30 (.int .i64 n) (.int .i64 n)).run Ecwg.prog w = .ok (.slice (some ⟨w.heap.size, 0, none⟩) n n) (w.alloc (.cells (List.replicate n (.string ByteArray.empty)).toArray 9)) := by
  rw [← madeCells_list]
  exact run_make_row' 30 9 (.string ByteArray.empty) 16 Ecwg.underlying30 info9 rfl .i64 .i64 n (by omega) (by omega) w

theorem run_make_ptrs (n : Nat) (h : n ≤ 1048576) (w : World) :
    (Instr.makeSlice 50 (.int .i64 n) (.int .i64 n)).run Ecwg.prog w = .ok (.slice (some ⟨w.heap.size, 0, none⟩) n n) (w.alloc (.cells (List.replicate n (.pointer none)).toArray 51)) := by
  rw [← madeCells_list]
  exact run_make_row' 50 51 (.pointer none) 8 Ecwg.underlying50 info51 rfl .i64 .i64 n (by omega) (by omega) w

theorem run_make_ints (n : Nat) (h : n ≤ 1048576) (w : World) :
    (Instr.makeSlice 44 (.int .i64 n) (.int .i64 n)).run Ecwg.prog w = .ok (.slice (some ⟨w.heap.size, 0, none⟩) n n) (w.alloc (.cells (List.replicate n (.int .i64 0)).toArray 2)) := by
  rw [← madeCells_list]
  exact run_make_row' 44 2 (.int .i64 0) 8 Ecwg.underlying44 info2 rfl .i64 .i64 n (by omega) (by omega) w

end Go.Proofs.Yoecww
