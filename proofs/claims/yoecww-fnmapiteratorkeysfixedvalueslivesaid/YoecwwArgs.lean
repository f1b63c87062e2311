/-
  SEAT oecw: the two arguments of the laws over keys and values, from the row's reading of them to 'Came': a []string (type 30) and a []int64 (type 44), nil, empty or not.
-/
import Derived.Test.YoecwwHelpers
import Derived.SliceStrings
import Derived.OpenShut
namespace Go.Proofs.Yoecww
open Go.RowKit Go.ChangeShapes Go.WideShapes

/-- From the reading's cells (at 'a.add i', all up to the capacity where the spare is read) to 'Came' over the elements. -/
theorem came_of {w : World} {a : Addr} {len : Nat} {f : Nat → Value} {vs : List Value} (hl : len ≤ vs.length) (hv : ∀ i, i < vs.length → vs[i]? = some (f i)) (hc : ∀ i, i < vs.length → w.cell? (a.add i) = some (f i)) :
    Came w (some a) len (vs.take len) := by
  refine ⟨by simp; omega, ?_⟩
  by_cases h0 : len = 0
  · exact .inl h0
  · obtain ⟨b, off, spot⟩ := a
    have h1 := hc 0 (by omega)
    have hspot : spot = none := by simpa [Addr.add] using World.cell?_spot h1
    subst hspot
    refine .inr ⟨b, off, rfl, by simpa [Addr.add] using World.block_lt_of_cell? w _ h1, fun i v hi => ?_⟩
    rw [List.getElem?_take] at hi
    split at hi
    · have hlt : i < vs.length := by omega
      rw [hv i hlt] at hi
      cases hi
      rw [← add_plain]
      exact hc i hlt
    · cases hi

section
variable {H : Type} {enc : TypeId × Value → H} {w : World} {base : Nat} {spare : Nat → Bool} {held : Bool} {a : Option Addr} {len cap : Nat} {d : DataW H} {p : List MemPlace}

theorem came_strings (h : DataW.Trod enc Ecwg.prog w base spare held 30 (.slice a len cap) d p) :
    ∃ ss : List ByteArray, Came w a len (ss.map Value.string) ∧ (∀ s ∈ ss, s.size ≤ maxLen) ∧ (a = none → len = 0) ∧ len ≤ maxLen := by
  obtain ⟨fuel, hf⟩ := h
  rcases open_strings Ecwg.underlying30 Ecwg.underlying9 (by kernel_rfl) hf with ⟨hcs, _⟩ | ⟨x, l, c, ss, hcs, _, hl, hm, hz, _, hcell, hsz⟩
  · simp [Value.cells] at hcs
    obtain ⟨rfl, rfl, rfl⟩ := hcs
    exact ⟨[], ⟨rfl, .inl rfl⟩, by simp, fun _ => rfl, Nat.zero_le _⟩
  · simp [Value.cells] at hcs
    obtain ⟨rfl, rfl, rfl⟩ := hcs
    have hlen : len ≤ ss.length := by rw [hz]; split <;> omega
    refine ⟨ss.take len, ?_, fun s hs => hsz s (List.mem_of_mem_take hs), (fun e => by cases e), by omega⟩
    rw [List.map_take]
    refine came_of (f := fun i => .string (ss.getD i ByteArray.empty)) (by simpa using hlen) (fun i hi => ?_) (fun i hi => hcell i (by simpa using hi))
    have : i < ss.length := by simpa using hi
    simp [List.getD, this]

theorem came_ints (h : DataW.Trod enc Ecwg.prog w base spare held 44 (.slice a len cap) d p) :
    ∃ zs : List Int, Came w a len (zs.map (Value.int .i64)) ∧ (a = none → len = 0) ∧ len ≤ maxLen := by
  obtain ⟨fuel, hf⟩ := h
  rcases open_ints Ecwg.underlying44 Ecwg.underlying2 (by kernel_rfl) hf with ⟨hcs, _⟩ | ⟨x, l, c, zs, hcs, _, hl, hm, hz, _, hcell, hwz⟩
  · simp [Value.cells] at hcs
    obtain ⟨rfl, rfl, rfl⟩ := hcs
    exact ⟨[], ⟨rfl, .inl rfl⟩, fun _ => rfl, Nat.zero_le _⟩
  · simp [Value.cells] at hcs
    obtain ⟨rfl, rfl, rfl⟩ := hcs
    have hlen : len ≤ zs.length := by rw [hz]; split <;> omega
    refine ⟨zs.take len, ?_, (fun e => by cases e), by omega⟩
    rw [List.map_take]
    refine came_of (f := fun i => .int .i64 (zs.getD i 0)) (by simpa using hlen) (fun i hi => ?_) (fun i hi => hcell i (by simpa using hi))
    have : i < zs.length := by simpa using hi
    simp [List.getD, this]
end

end Go.Proofs.Yoecww
