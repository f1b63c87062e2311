/-
  SEAT oecw: the contracts of ZZnewMapIterator (20) and of MapIterator's Next (21), over whatever world in which the iterator's block is a row of its four cells.
-/
import Derived.Test.YoecwwBase
namespace Go.Proofs.Yoecww
open Go.RowKit

/-- The iterator's four cells: the map, the list of keys, how far it has come, how many keys there are. -/
def itCells (mb : Nat) (ka : Option Addr) (n cap : Nat) (i : Int) : List Value := [.map (some mb), .slice ka n cap, .int .i64 i, .int .i64 n]

theorem new_any (mb : Nat) (ka : Option Addr) (n cap : Nat) (w : World) :
    Calls Ecwg.prog 20 #[.map (some mb), .slice ka n cap] w fun e w' => e = .returned (.pointer (some ⟨w.heap.size, 0, none⟩)) ∧ w' = w.alloc (.cells (itCells mb ka n cap 0).toArray 32) := by
  go_enter Ecwg.func20, Ecwg.ntmps20
  go_wp2
  go_ret
  exact ⟨rfl, rfl⟩

set_option maxHeartbeats 400000 in
theorem next_any (ib mb : Nat) (ka : Option Addr) (n cap : Nat) (i : Int) (w : World) (h0 : 0 ≤ i) (h1 : i ≤ 1099511627776) (h : Row w ib 32 (itCells mb ka n cap i)) :
    Calls Ecwg.prog 21 #[.pointer (some ⟨ib, 0, none⟩)] w fun e w' => e = .returned (.bool (decide (i + 1 ≤ (n : Int)))) ∧ ∃ d, w' = (w.setCell ⟨ib, 2, none⟩ (.int .i64 (i + 1))).drewN d := by
  have c2 : w.cell? ⟨ib, 2, none⟩ = some (.int .i64 i) := h.cell 2
  have f2 := h.frozen 2
  have c2' : (w.setCell ⟨ib, 2, none⟩ (.int .i64 (i + 1))).cell? ⟨ib, 2, none⟩ = some (.int .i64 (i + 1)) := (h.put_same 2 _).cell 2
  have c3' : (w.setCell ⟨ib, 2, none⟩ (.int .i64 (i + 1))).cell? ⟨ib, 3, none⟩ = some (.int .i64 n) := (h.put_same 2 _).cell 3
  go_enter Ecwg.func21, Ecwg.ntmps21
  go_wp2
  go_quiet (fail)
  go_wp2
  go_ret
  exact ⟨rfl, _, rfl⟩

theorem next_row {ib mb : Nat} {ka : Option Addr} {n cap : Nat} {i : Int} {w : World} (h : Row w ib 32 (itCells mb ka n cap i)) (d : Nat) :
    Row ((w.setCell ⟨ib, 2, none⟩ (.int .i64 (i + 1))).drewN d) ib 32 (itCells mb ka n cap (i + 1)) := h.put_same 2 _

end Go.Proofs.Yoecww
