/-
  SEAT oecw: the state of the law whose loop writes the map while the iterator goes: as 'Iter' (YoecwwIterate), with the map's bound 'm' and the index 'lo' from which on the map still holds the objects that were stored first.
-/
import Derived.Test.YoecwwIterate
namespace Go.Proofs.Yoecww
open Go.RowKit Go.Maps Go.WideMaps

structure Live (w : World) (kb vb mb ob ib n : Nat) (ka : Option Addr) (ss : List ByteArray) (zs : List Int) (bs : List Nat) (m lo : Nat) (D : DataW Value) (i : Nat) (wr : World) : Prop where
  fill : Fill wr kb vb mb ob n m lo ss zs bs D
  it : Row wr ib 32 (itCells mb ka n n i)
  old : Below w.heap.size w wr

section
variable {w wr w3 : World} {kb vb mb ob ib n m m' lo k : Nat} {ka : Option Addr} {ss : List ByteArray} {zs : List Int} {bs : List Nat} {D D' : DataW Value}

theorem live_start (h : Fill wr kb vb mb ob n n 0 ss zs bs D) (N : Nums kb vb mb ob n wr.heap.size bs) (hB : Below w.heap.size w wr) :
    Live w kb vb mb ob wr.heap.size n ka ss zs bs n 0 D 0 (wr.alloc (.cells (itCells mb ka n n 0).toArray 32)) :=
  ⟨h.alloc N _, Row.made wr 32 _, hB.alloc hB.size _⟩

theorem Live.next (h : Live w kb vb mb ob ib n ka ss zs bs m lo D k wr) (N : Nums kb vb mb ob n ib bs) (hib : w.heap.size ≤ ib) (d : Nat) :
    Live w kb vb mb ob ib n ka ss zs bs m lo D (k + 1) ((wr.setCell ⟨ib, 2, none⟩ (.int .i64 ((k : Int) + 1))).drewN d) :=
  ⟨(h.fill.put N (a := ⟨ib, 2, none⟩) (Nat.le_refl _) _).drewN d, next_row h.it d, below_drewN (h.old.setCell (p := ⟨ib, 2, none⟩) hib _) d⟩

theorem Live.alloc (h : Live w kb vb mb ob ib n ka ss zs bs m lo D k wr) (N : Nums kb vb mb ob n ib bs) (o : Obj) : Live w kb vb mb ob ib n ka ss zs bs m lo D k (wr.alloc o) :=
  ⟨h.fill.alloc N o, h.it.alloc o, h.old.alloc h.old.size o⟩

theorem Live.drewN (h : Live w kb vb mb ob ib n ka ss zs bs m lo D k wr) (d : Nat) : Live w kb vb mb ob ib n ka ss zs bs m lo D k (wr.drewN d) :=
  ⟨h.fill.drewN d, h.it, below_drewN h.old d⟩

theorem Live.keyCell (h : Live w kb vb mb ob ib n ka ss zs bs m lo D k wr) {q : Nat} {s : ByteArray} (hs : ss[q]? = some s) (hq : q < n) : wr.cell? ⟨kb, q, none⟩ = some (.string s) := by
  rw [(h.fill.keys (by omega)).cell]
  simp [hs]

theorem Live.valCell (h : Live w kb vb mb ob ib n ka ss zs bs m lo D k wr) {q : Nat} {z : Int} (hz : zs[q]? = some z) (hq : q < n) : wr.cell? ⟨vb, q, none⟩ = some (.int .i64 z) := by
  rw [(h.fill.vals (by omega)).cell]
  simp [hz]

theorem Live.objCell (h : Live w kb vb mb ob ib n ka ss zs bs m lo D k wr) (hl : bs.length = n) {q b : Nat} (hb : bs[q]? = some b) : wr.cell? ⟨ob, q, none⟩ = some (.pointer (some ⟨b, 0, none⟩)) := by
  rw [(h.fill.full hl).cell]
  simp [hb, ptr]

/-- THE MAP IS WRITTEN, and nothing else: what stands at the keys from lo + 1 on stays. -/
theorem Live.turned (h : Live w kb vb mb ob ib n ka ss zs bs m lo D k wr) (N : Nums kb vb mb ob n ib bs) (hn : 0 < n) (hmb : w.heap.size ≤ mb) (hown : w3.ownsMap Ecwg.prog 9 rdr mb m' D') (hg : wr.grownBy w3 (some mb))
    (hD : ∀ (i : Nat) (s : ByteArray), lo < i → ss[i]? = some s → D'.atKey (keyLit s) (.held .nilIface) = D.atKey (keyLit s) (.held .nilIface)) :
    Live w kb vb mb ob ib n ka ss zs bs m' (lo + 1) D' k w3 := by
  have hc := N.clones hn
  have ho := N.objs
  have ht := N.top_
  refine ⟨⟨fun h1 => (h.fill.keys h1).grown hg (by simp; omega), fun h1 => (h.fill.vals h1).grown hg (by simp; omega), h.fill.objs.grown hg (by simp; omega), fun i b z h1 h2 => (h.fill.each i b z h1 h2).grown hg ?_, hown, fun i b s h1 h2 h3 => ?_⟩, h.it.grown hg (by simp; omega), h.old.grown hg h.old.size (fun j hj => by cases hj; exact hmb)⟩
  · have := N.each b (List.mem_of_getElem? h1)
    simp
    omega
  · rw [hD i s (by omega) h3]
    exact h.fill.elem i b s (by omega) h2 h3

theorem put_keeps (hA : Apart ss) {q : Nat} {s : ByteArray} (hs : ss[q]? = some s) (v : DataW Value) (i : Nat) (t : ByteArray) (hi : q < i) (ht : ss[i]? = some t) :
    (D.put (keyLit s) v).atKey (keyLit t) (.held .nilIface) = D.atKey (keyLit t) (.held .nilIface) :=
  atKey_put_other (fun e => keyLit_ne (hA q i s t hi hs ht) e.symm) _ _

theorem del_keeps (hA : Apart ss) {q : Nat} {s : ByteArray} (hs : ss[q]? = some s) (i : Nat) (t : ByteArray) (hi : q < i) (ht : ss[i]? = some t) :
    (D.del (keyLit s)).atKey (keyLit t) (.held .nilIface) = D.atKey (keyLit t) (.held .nilIface) :=
  atKey_del_other (fun e => keyLit_ne (hA q i s t hi hs ht) e.symm) _

/-- The iterating loop's relation. -/
def Living (w : World) (kb vb mb ob ib n : Nat) (ka : Option Addr) (ss : List ByteArray) (zs : List Int) (bs : List Nat) (q : Nat) (wr : World) : Prop :=
  ∃ (m : Nat) (D : DataW Value), m ≤ n + q ∧ Live w kb vb mb ob ib n ka ss zs bs m q D q wr
end

end Go.Proofs.Yoecww
