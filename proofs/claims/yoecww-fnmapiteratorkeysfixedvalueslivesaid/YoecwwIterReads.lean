/-
  SEAT oecw: the contracts of ZZasString (22), ZZasInt (24), ZZisNilObject (28) and of MapIterator's Key (23) and Value (25).
-/
import Derived.Test.YoecwwIter
import Derived.Test.YoecwwMaps
namespace Go.Proofs.Yoecww
open Go.RowKit Go.Maps Go.WideMaps

theorem as57 (v : Value) (w : World) : (Instr.typeAssert (.iface 57 v) 55 57 true).run Ecwg.prog w = .ok (.tuple #[v, .bool true]) w := by
  simp [Instr.typeAssert, run_underlying Ecwg.underlying57]
theorem as51 (v : Value) (w : World) : (Instr.typeAssert (.iface 51 v) 55 51 true).run Ecwg.prog w = .ok (.tuple #[v, .bool true]) w := by
  simp [Instr.typeAssert, run_underlying Ecwg.underlying51]

theorem asString_any (a : Addr) (w : World) : Calls Ecwg.prog 22 #[.iface 57 (.pointer (some a))] w fun e w' => e = .returned (.pointer (some a)) ∧ w' = w := by
  have h := as57
  go_enter Ecwg.func22, Ecwg.ntmps22
  go_wp2
  go_ret
  exact ⟨rfl, rfl⟩

theorem asInt_any (a : Addr) (w : World) : Calls Ecwg.prog 24 #[.iface 51 (.pointer (some a))] w fun e w' => e = .returned (.pointer (some a)) ∧ w' = w := by
  have h := as51
  go_enter Ecwg.func24, Ecwg.ntmps24
  go_wp2
  go_ret
  exact ⟨rfl, rfl⟩

theorem isNil_any (w : World) : Calls Ecwg.prog 28 #[.nilIface] w fun e w' => e = .returned (.bool true) ∧ w' = w := by
  go_enter Ecwg.func28, Ecwg.ntmps28
  go_wp2
  go_ret
  exact ⟨rfl, rfl⟩

set_option maxHeartbeats 400000 in
theorem key_any (ib mb kb n cap j : Nat) (s : ByteArray) (w : World) (hn : n ≤ 1048576) (hj : j < n) (h : Row w ib 32 (itCells mb (some ⟨kb, 0, none⟩) n cap ((j : Int) + 1))) (hc : w.cell? ⟨kb, j, none⟩ = some (.string s)) :
    Calls Ecwg.prog 23 #[.pointer (some ⟨ib, 0, none⟩)] w fun e w' => e = .returned (.iface 57 (.pointer (some ⟨w.heap.size, 0, none⟩))) ∧ ∃ d, w' = (w.alloc (.cells #[.string s, .slice none 0 0] 61)).drewN d := by
  have c1 : w.cell? ⟨ib, 1, none⟩ = some (.slice (some ⟨kb, 0, none⟩) n cap) := h.cell 1
  have c2 : w.cell? ⟨ib, 2, none⟩ = some (.int .i64 ((j : Int) + 1)) := h.cell 2
  clear h
  go_enter Ecwg.func23, Ecwg.ntmps23
  go_wp2
  go_quiet (fail)
  go_wp2
  go_ret
  exact ⟨rfl, _, rfl⟩

theorem zero55 (w : World) : (zeroValue 55).run Ecwg.prog w = .ok .nilIface w := by kernel_rfl

theorem look_any {mb m : Nat} {s : ByteArray} {D : DataW Value} {w : World} (hs : s.size ≤ maxLen) (hown : w.ownsMap Ecwg.prog 9 rdr mb m D) :
    ∃ v, (∀ d, (Instr.lookup 29 (.map (some mb)) (.string s) false).run Ecwg.prog (w.drewN d) = .ok v (w.drewN d)) ∧ D.atKey (.string s.data.toList) (.held .nilIface) = .held v := by
  have h : ∀ d, ∃ v, (Instr.lookup 29 (.map (some mb)) (.string s) false).run Ecwg.prog (w.drewN d) = .ok v (w.drewN d) ∧ D.atKey (.string s.data.toList) (.held .nilIface) = .held v := fun d => by
    have ho : (w.drewN d).ownsMap Ecwg.prog 9 rdr mb m D := hown
    obtain ⟨v, ps, h1, h2⟩ := ho.lookup law9 Ecwg.underlying29 (zero55 _) (zd := .held .nilIface) (zp := []) rfl (keyOf_string_mk Ecwg.underlying9 hs)
    simp only [rdr, Option.some.injEq, Prod.mk.injEq] at h2
    exact ⟨v, h1, h2.1.symm⟩
  obtain ⟨v, _, hv⟩ := h 0
  refine ⟨v, fun d => ?_, hv⟩
  obtain ⟨u, h1, h2⟩ := h d
  rw [hv] at h2
  cases h2
  exact h1

set_option maxHeartbeats 400000 in
theorem value_any (ib mb kb n cap j m : Nat) (s : ByteArray) (D : DataW Value) (w : World) (hn : n ≤ 1048576) (hj : j < n) (h : Row w ib 32 (itCells mb (some ⟨kb, 0, none⟩) n cap ((j : Int) + 1))) (hc : w.cell? ⟨kb, j, none⟩ = some (.string s)) (hs : s.size ≤ maxLen)
    (hown : w.ownsMap Ecwg.prog 9 rdr mb m D) :
    Calls Ecwg.prog 25 #[.pointer (some ⟨ib, 0, none⟩)] w fun e w' => (∃ v, e = .returned v ∧ D.atKey (.string s.data.toList) (.held .nilIface) = .held v) ∧ ∃ d, w' = w.drewN d := by
  have c0 : w.cell? ⟨ib, 0, none⟩ = some (.map (some mb)) := h.cell 0
  have c1 : w.cell? ⟨ib, 1, none⟩ = some (.slice (some ⟨kb, 0, none⟩) n cap) := h.cell 1
  have c2 : w.cell? ⟨ib, 2, none⟩ = some (.int .i64 ((j : Int) + 1)) := h.cell 2
  clear h
  obtain ⟨v, hl, hv⟩ := look_any hs hown
  have HV : Hid (D.atKey (.string s.data.toList) (.held .nilIface) = .held v) := hv
  clear hv hown
  go_enter Ecwg.func25, Ecwg.ntmps25
  go_wp2
  go_quiet (fail)
  go_wp2
  go_ret
  exact ⟨⟨v, rfl, HV.out⟩, _, rfl⟩

end Go.Proofs.Yoecww
