/-
  SEAT oecw: the contracts of zzCloneStrings (18) and zzCloneInt64s (19): the elements lie in a row of the call's own; nothing that was there has turned.
-/
import Derived.Test.YoecwwHelpers
import Derived.Lib.SliceRun
namespace Go.Proofs.Yoecww
open Go.RowKit

/-- WHAT A CLONE LEAVES: a slice as long as the one that came in; where it is not empty it leads to the head of a new row that holds vs. -/
def Cloned (w w' : World) (e : Ending) (len : Nat) (t : TypeId) (vs : List Value) : Prop :=
  ∃ ka, e = .returned (.slice ka len len) ∧ Below w.heap.size w w' ∧ (0 < len → ka = some ⟨w.heap.size, 0, none⟩ ∧ Row w' w.heap.size t vs)

theorem fill_step {z v : Value} {vs : List Value} {n k : Nat} (hn : vs.length = n) (hv : vs[k]? = some v) :
    (vs.take k ++ List.replicate (n - k) z).set k v = vs.take (k + 1) ++ List.replicate (n - (k + 1)) z := by
  have hk : k < vs.length := (List.getElem?_eq_some_iff.1 hv).1
  have e1 : (vs.take k).length = k := by simp; omega
  have e2 : n - k = (n - (k + 1)) + 1 := by omega
  rw [List.set_append_right _ _ (by omega), e1, Nat.sub_self, e2, List.replicate_succ, List.set_cons_zero, List.take_add_one, hv]
  simp

theorem fill_done {z : Value} {vs : List Value} {n : Nat} (hn : vs.length = n) : vs.take n ++ List.replicate (n - n) z = vs := by
  rw [Nat.sub_self, ← hn]
  simp

theorem fill_cell {z : Value} {vs : List Value} {n k : Nat} (hn : vs.length = n) (hk : k < n) : ∃ u, (vs.take k ++ List.replicate (n - k) z)[k]? = some u :=
  ⟨_, List.getElem?_eq_getElem (by simp; omega)⟩

set_option maxHeartbeats 1000000 in
theorem cloneStrings_any (a0 : Option Addr) (len0 cap0 : Nat) (vs : List Value) (w : World) (h : Came w a0 len0 vs) (hnil : a0 = none → len0 = 0) (h0 : len0 ≤ 4096) (hstr : ∀ v ∈ vs, ∃ s, v = .string s) :
    Calls Ecwg.prog 18 #[.slice a0 len0 cap0] w fun e w' => Cloned w w' e len0 9 vs := by
  have hq := fun (W : World) (a : Option Addr) (n c n' c' : Nat) => Lib.run_eql_slice_nil (P := Ecwg.prog) W 30 9 a n c n' c' Ecwg.underlying30
  have hms := run_make_strings len0 (by omega)
  cases a0 with
  | none =>
    obtain rfl := hnil rfl
    go_enter Ecwg.func18, Ecwg.ntmps18
    go_wp2
    go_ret
    exact ⟨none, rfl, Below.refl _ _, fun h => by omega⟩
  | some x =>
    go_enter Ecwg.func18, Ecwg.ntmps18
    go_wp2
    go_loopw [4] (fun i wr => ∃ k : Nat, k ≤ len0 ∧ i = .int .i64 k ∧ Row wr w.heap.size 9 (vs.take k ++ List.replicate (len0 - k) (.string ByteArray.empty)) ∧ Below w.heap.size w wr) (fun i _ => len0 - (intOf i).toNat)
    case atStart => exact ⟨0, by omega, rfl, Row.made w 9 _, (Below.refl _ _).alloc (Nat.le_refl _) _⟩
    case round =>
      clear hq hms
      obtain ⟨k, hk, rfl, hrow, hb⟩ := hrel
      by_cases hlt : k < len0
      · obtain ⟨b, off, hx, hbl, hc⟩ := h.ptr hlt
        obtain rfl := Option.some.inj hx
        obtain ⟨v, hv⟩ : ∃ v, vs[k]? = some v := ⟨_, List.getElem?_eq_getElem (by have := h.count; omega)⟩
        obtain ⟨s, rfl⟩ := hstr v (List.mem_of_getElem? hv)
        have hcx : wr.cell? ⟨b, off + k, none⟩ = some (.string s) := (hb.cell hbl).trans (hc k _ hv)
        obtain ⟨u, hu⟩ := fill_cell (z := .string ByteArray.empty) h.count hlt
        have hcu : wr.cell? ⟨w.heap.size, k, none⟩ = some u := (hrow.cell k).trans hu
        have hf := hrow.frozen k
        have hrow' := hrow.put_same k (.string s)
        rw [fill_step h.count hv] at hrow'
        have hb' := hb.setCell (p := ⟨w.heap.size, k, none⟩) (Nat.le_refl _) (.string s)
        clear hc hrow hu hb hv
        go_wp2
        go_roundw
        case rel => exact ⟨k + 1, by omega, by go_num, hrow', hb'⟩
        case measure => simp [intOf]; omega
      · obtain rfl : k = len0 := by omega
        rw [fill_done h.count] at hrow
        go_wp2
        go_ret
        exact ⟨_, rfl, hb, fun _ => ⟨rfl, hrow⟩⟩

set_option maxHeartbeats 1000000 in
theorem cloneInts_any (a0 : Option Addr) (len0 cap0 : Nat) (vs : List Value) (w : World) (h : Came w a0 len0 vs) (hnil : a0 = none → len0 = 0) (h0 : len0 ≤ 4096) (hint : ∀ v ∈ vs, ∃ z, v = .int .i64 z) :
    Calls Ecwg.prog 19 #[.slice a0 len0 cap0] w fun e w' => Cloned w w' e len0 2 vs := by
  have hq := fun (W : World) (a : Option Addr) (n c n' c' : Nat) => Lib.run_eql_slice_nil (P := Ecwg.prog) W 44 2 a n c n' c' Ecwg.underlying44
  have hms := run_make_ints len0 (by omega)
  cases a0 with
  | none =>
    obtain rfl := hnil rfl
    go_enter Ecwg.func19, Ecwg.ntmps19
    go_wp2
    go_ret
    exact ⟨none, rfl, Below.refl _ _, fun h => by omega⟩
  | some x =>
    go_enter Ecwg.func19, Ecwg.ntmps19
    go_wp2
    go_loopw [4] (fun i wr => ∃ k : Nat, k ≤ len0 ∧ i = .int .i64 k ∧ Row wr w.heap.size 2 (vs.take k ++ List.replicate (len0 - k) (.int .i64 0)) ∧ Below w.heap.size w wr) (fun i _ => len0 - (intOf i).toNat)
    case atStart => exact ⟨0, by omega, rfl, Row.made w 2 _, (Below.refl _ _).alloc (Nat.le_refl _) _⟩
    case round =>
      clear hq hms
      obtain ⟨k, hk, rfl, hrow, hb⟩ := hrel
      by_cases hlt : k < len0
      · obtain ⟨b, off, hx, hbl, hc⟩ := h.ptr hlt
        obtain rfl := Option.some.inj hx
        obtain ⟨v, hv⟩ : ∃ v, vs[k]? = some v := ⟨_, List.getElem?_eq_getElem (by have := h.count; omega)⟩
        obtain ⟨s, rfl⟩ := hint v (List.mem_of_getElem? hv)
        have hcx : wr.cell? ⟨b, off + k, none⟩ = some (.int .i64 s) := (hb.cell hbl).trans (hc k _ hv)
        obtain ⟨u, hu⟩ := fill_cell (z := .int .i64 0) h.count hlt
        have hcu : wr.cell? ⟨w.heap.size, k, none⟩ = some u := (hrow.cell k).trans hu
        have hf := hrow.frozen k
        have hrow' := hrow.put_same k (.int .i64 s)
        rw [fill_step h.count hv] at hrow'
        have hb' := hb.setCell (p := ⟨w.heap.size, k, none⟩) (Nat.le_refl _) (.int .i64 s)
        clear hc hrow hu hb hv
        go_wp2
        go_roundw
        case rel => exact ⟨k + 1, by omega, by go_num, hrow', hb'⟩
        case measure => simp [intOf]; omega
      · obtain rfl : k = len0 := by omega
        rw [fill_done h.count] at hrow
        go_wp2
        go_ret
        exact ⟨_, rfl, hb, fun _ => ⟨rfl, hrow⟩⟩

end Go.Proofs.Yoecww
