/-
  SEAT oecw: the map that a law makes: its elements are interface values, read as themselves ('rdr').
-/
import Derived.Test.YoecwwBase
namespace Go.Proofs.Yoecww
open Go.RowKit Go.Maps Go.WideMaps

/-- How an element of the map reads: as itself. -/
def rdr (v : Value) : Option (DataW Value × List MemPlace) := some (.held v, [])
theorem law9 : Keyed Ecwg.prog 9 := string_keyed Ecwg.underlying9

theorem ownsMap_below {H : Type} {P : Program} {k : TypeId} {R : Value → Option (DataW H × List MemPlace)} {w w' : World} {b n : Nat} {D : DataW H} (h : w.ownsMap P k R b n D) (hb : Below w.heap.size w w') : w'.ownsMap P k R b n D := by
  have hlt := h.lt
  obtain ⟨es, clock, hh, r⟩ := h
  exact ⟨es, clock, (hb.block b hlt).trans hh, r⟩

end Go.Proofs.Yoecww
