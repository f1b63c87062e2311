/-
  SEAT oecw: what the walks of the two laws over keys and values share beside 'Fill': the start of the filling loop, its round, the state while the iterator goes, and what each step does to it.
-/
import Derived.Test.YoecwwIterReads
import Derived.Test.YoecwwClones
import Derived.Test.YoecwwFill
import Derived.LaidEql
namespace Go.Proofs.Yoecww
open Go.RowKit Go.Maps Go.WideMaps

theorem run_equalIn_same (d : Nat) (a : Addr) (w : World) : (Op.equalIn (d + 1) 51 (.pointer (some a)) (.pointer (some a))).run Ecwg.prog w = .ok true w := by
  simp [Op.equalIn, run_underlying Ecwg.underlying51, run_sameAddr_same]
theorem run_equal_same (a : Addr) (w : World) : (Op.equal 51 (.pointer (some a)) (.pointer (some a))).run Ecwg.prog w = .ok true w := run_equalIn_same 9999 a w
/-- '!=' of a pointer with itself. -/
theorem run_neq_same (a : Addr) (w : World) : (binOp .neq 51 (.pointer (some a)) (.pointer (some a))).run Ecwg.prog w = .ok (.bool false) w := by
  simp only [binOp]
  simp [run_equal_same]

theorem Came.drewN {w : World} {a : Option Addr} {len : Nat} {vs : List Value} (h : Came w a len vs) (d : Nat) : Came (w.drewN d) a len vs := ⟨h.count, h.place⟩
theorem Came.below {w w' : World} {a : Option Addr} {len : Nat} {vs : List Value} (h : Came w a len vs) (hb : Below w.heap.size w w') : Came w' a len vs := by
  refine ⟨h.count, ?_⟩
  rcases h.place with h0 | ⟨b, off, e, hlt, hc⟩
  · exact .inl h0
  · exact .inr ⟨b, off, e, Nat.lt_of_lt_of_le hlt hb.size, fun i v hv => (hb.cell hlt).trans (hc i v hv)⟩

theorem fill_start {w w1 w2 : World} {n : Nat} {ss : List ByteArray} {zs : List Int} {ka va : Option Addr} (hw1 : Below w.heap.size w w1) (hk1 : 0 < n → ka = some ⟨w.heap.size, 0, none⟩ ∧ Row w1 w.heap.size 9 (ss.map Value.string))
    (hw2 : Below w1.heap.size w1 w2) (hk2 : 0 < n → va = some ⟨w1.heap.size, 0, none⟩ ∧ Row w2 w1.heap.size 2 (zs.map (Value.int .i64))) :
    Fill ((w2.alloc (.map #[] 0)).alloc (.cells (Array.replicate n (.pointer none)) 51)) w.heap.size w1.heap.size w2.heap.size (w2.heap.size + 1) n 0 0 ss zs [] (.map []) ∧
    Nums w.heap.size w1.heap.size w2.heap.size (w2.heap.size + 1) n ((w2.alloc (.map #[] 0)).alloc (.cells (Array.replicate n (.pointer none)) 51)).heap.size [] ∧
    Below w.heap.size w ((w2.alloc (.map #[] 0)).alloc (.cells (Array.replicate n (.pointer none)) 51)) := by
  have hs : w.heap.size ≤ w1.heap.size := hw1.size
  have hs2 : w1.heap.size ≤ w2.heap.size := hw2.size
  have hb2 : Below w.heap.size w w2 := hw1.trans (hw2.mono hs)
  have hsz : ((w2.alloc (.map #[] 0)).alloc (.cells (Array.replicate n (.pointer none)) 51)).heap.size = w2.heap.size + 1 + 1 := by simp
  refine ⟨⟨fun hn => ?_, fun hn => ?_, ?_, fun i b z h => by simp at h, ?_, fun i b s _ h => by simp at h⟩, ⟨fun hn => ?_, rfl, by rw [hsz]; omega, fun b hb => by simp at hb⟩, (hb2.alloc hb2.size _).alloc (hb2.alloc hb2.size _).size _⟩
  · exact (((hk1 hn).2.below hw2 (hk1 hn).2.lt).alloc _).alloc _
  · exact ((hk2 hn).2.alloc _).alloc _
  · have := Row.made (w2.alloc (.map #[] 0)) 51 (List.replicate n (.pointer none))
    simpa using this
  · exact (World.ownsMap_made w2 Ecwg.prog 9 rdr).alloc _
  · have l1 := (hk1 hn).2.lt
    have l2 := (hk2 hn).2.lt
    omega

/-- What the round of the filling loop reads. -/
structure RoundFacts (wr : World) (kb vb mb ob k : Nat) (s : ByteArray) (z : Int) (D : DataW Value) : Prop where
  val : wr.cell? ⟨vb, k, none⟩ = some (.int .i64 z)
  obj : wr.cell? ⟨ob, k, none⟩ = some (.pointer none)
  objF : wr.frozen? ⟨ob, k, none⟩ = false
  key : (wr.setCell ⟨ob, k, none⟩ (.pointer (some ⟨wr.heap.size, 0, none⟩))).cell? ⟨kb, k, none⟩ = some (.string s)
  owns : ((wr.setCell ⟨ob, k, none⟩ (.pointer (some ⟨wr.heap.size, 0, none⟩))).alloc (.cells #[.int .i64 z] 53)).ownsMap Ecwg.prog 9 rdr mb k D
  lt : ob < wr.heap.size
  ltk : kb < wr.heap.size

theorem round_facts {wr : World} {kb vb mb ob n lo k : Nat} {ss : List ByteArray} {zs : List Int} {bs : List Nat} {D : DataW Value} {s : ByteArray} {z : Int} (h : Fill wr kb vb mb ob n k lo ss zs bs D) (N : Nums kb vb mb ob n wr.heap.size bs)
    (hk : bs.length = k) (hlt : k < n) (hs : ss[k]? = some s) (hz : zs[k]? = some z) : RoundFacts wr kb vb mb ob k s z D := by
  have hc := N.clones (by omega)
  have ho := N.objs
  refine ⟨?_, ?_, h.objs.frozen k, ?_, ?_, N.top_, (h.keys (by omega)).lt⟩
  · rw [(h.vals (by omega)).cell]
    simp [hz]
  · rw [h.objs.cell, hk]
    rw [List.getElem?_append_right (by simp [hk])]
    simp [hk, show 0 < n - k by omega]
  · rw [((h.keys (by omega)).put_other (by simp; omega) _).cell]
    simp [hs]
  · exact (h.map.setCell (by simp; omega) _).alloc _

/-- The filling loop's relation. -/
def Filling (w : World) (kb vb mb ob n : Nat) (ss : List ByteArray) (zs : List Int) (k : Nat) (wr : World) : Prop :=
  ∃ (bs : List Nat) (D : DataW Value), bs.length = k ∧ Fill wr kb vb mb ob n k 0 ss zs bs D ∧ Nums kb vb mb ob n wr.heap.size bs ∧ Below w.heap.size w wr

theorem filling_step {w wr w3 : World} {kb vb mb ob n k : Nat} {ss : List ByteArray} {zs : List Int} {bs : List Nat} {D : DataW Value} {s : ByteArray} {z : Int} (h : Fill wr kb vb mb ob n k 0 ss zs bs D) (N : Nums kb vb mb ob n wr.heap.size bs) (hB : Below w.heap.size w wr)
    (hk : bs.length = k) (hlt : k < n) (hs : ss[k]? = some s) (hz : zs[k]? = some z) (hA : Apart ss) (hmb : w.heap.size ≤ mb)
    (hown : w3.ownsMap Ecwg.prog 9 rdr mb (k + 1) (D.put (keyLit s) (.held (.iface 51 (.pointer (some ⟨wr.heap.size, 0, none⟩))))))
    (hg : ((wr.setCell ⟨ob, k, none⟩ (.pointer (some ⟨wr.heap.size, 0, none⟩))).alloc (.cells #[.int .i64 z] 53)).grownBy w3 (some mb)) : Filling w kb vb mb ob n ss zs (k + 1) w3 := by
  subst hk
  obtain ⟨h1, h2⟩ := h.round N hlt hs hz hA hown hg
  have ho := N.objs
  have b1 := hB.setCell (p := ⟨ob, bs.length, none⟩) (by simp; omega) (.pointer (some ⟨wr.heap.size, 0, none⟩))
  have b2 := b1.alloc b1.size (.cells #[.int .i64 z] 53)
  exact ⟨_, _, by simp, h1, h2, b2.grown hg b2.size (fun j hj => by cases hj; exact hmb)⟩

/-- The state while the iterator goes: its block ib lies above all that was built. -/
structure Iter (w : World) (kb vb mb ob ib n : Nat) (ka : Option Addr) (ss : List ByteArray) (zs : List Int) (bs : List Nat) (D : DataW Value) (k : Nat) (wr : World) : Prop where
  fill : Fill wr kb vb mb ob n n 0 ss zs bs D
  it : Row wr ib 32 (itCells mb ka n n k)
  old : Below w.heap.size w wr

theorem iter_start {w wr : World} {kb vb mb ob n : Nat} {ka : Option Addr} {ss : List ByteArray} {zs : List Int} {bs : List Nat} {D : DataW Value} (h : Fill wr kb vb mb ob n n 0 ss zs bs D) (N : Nums kb vb mb ob n wr.heap.size bs) (hB : Below w.heap.size w wr) :
    Iter w kb vb mb ob wr.heap.size n ka ss zs bs D 0 (wr.alloc (.cells (itCells mb ka n n 0).toArray 32)) :=
  ⟨h.alloc N _, Row.made wr 32 _, hB.alloc hB.size _⟩

theorem value_hit (ib mb kb n cap j m : Nat) (s : ByteArray) (D : DataW Value) (w : World) (v : Value) (hn : n ≤ 1048576) (hj : j < n) (h : Row w ib 32 (itCells mb (some ⟨kb, 0, none⟩) n cap ((j : Int) + 1))) (hc : w.cell? ⟨kb, j, none⟩ = some (.string s)) (hs : s.size ≤ maxLen)
    (hown : w.ownsMap Ecwg.prog 9 rdr mb m D) (hv : D.atKey (keyLit s) (.held .nilIface) = .held v) :
    Calls Ecwg.prog 25 #[.pointer (some ⟨ib, 0, none⟩)] w fun e w' => e = .returned v ∧ ∃ d, w' = w.drewN d := by
  refine (value_any ib mb kb n cap j m s D w hn hj h hc hs hown).mono ?_
  rintro e w' ⟨⟨u, rfl, hu⟩, d, rfl⟩
  have e2 : DataW.held u = DataW.held v := hu.symm.trans hv
  cases e2
  exact ⟨rfl, d, rfl⟩

section
variable {w wr : World} {kb vb mb ob ib n k : Nat} {ka : Option Addr} {ss : List ByteArray} {zs : List Int} {bs : List Nat} {D : DataW Value}

theorem Iter.next (h : Iter w kb vb mb ob ib n ka ss zs bs D k wr) (N : Nums kb vb mb ob n ib bs) (hib : w.heap.size ≤ ib) (d : Nat) :
    Iter w kb vb mb ob ib n ka ss zs bs D (k + 1) ((wr.setCell ⟨ib, 2, none⟩ (.int .i64 ((k : Int) + 1))).drewN d) :=
  ⟨(h.fill.put N (a := ⟨ib, 2, none⟩) (Nat.le_refl _) _).drewN d, next_row h.it d, below_drewN (h.old.setCell (p := ⟨ib, 2, none⟩) hib _) d⟩

theorem Iter.alloc (h : Iter w kb vb mb ob ib n ka ss zs bs D k wr) (N : Nums kb vb mb ob n ib bs) (o : Obj) : Iter w kb vb mb ob ib n ka ss zs bs D k (wr.alloc o) :=
  ⟨h.fill.alloc N o, h.it.alloc o, h.old.alloc h.old.size o⟩

theorem Iter.drewN (h : Iter w kb vb mb ob ib n ka ss zs bs D k wr) (d : Nat) : Iter w kb vb mb ob ib n ka ss zs bs D k (wr.drewN d) :=
  ⟨h.fill.drewN d, h.it, below_drewN h.old d⟩

theorem Iter.keyCell (h : Iter w kb vb mb ob ib n ka ss zs bs D k wr) {q : Nat} {s : ByteArray} (hs : ss[q]? = some s) (hq : q < n) : wr.cell? ⟨kb, q, none⟩ = some (.string s) := by
  rw [(h.fill.keys (by omega)).cell]
  simp [hs]

theorem Iter.valCell (h : Iter w kb vb mb ob ib n ka ss zs bs D k wr) {q : Nat} {z : Int} (hz : zs[q]? = some z) (hq : q < n) : wr.cell? ⟨vb, q, none⟩ = some (.int .i64 z) := by
  rw [(h.fill.vals (by omega)).cell]
  simp [hz]

theorem Iter.objCell (h : Iter w kb vb mb ob ib n ka ss zs bs D k wr) (hl : bs.length = n) {q b : Nat} (hb : bs[q]? = some b) : wr.cell? ⟨ob, q, none⟩ = some (.pointer (some ⟨b, 0, none⟩)) := by
  rw [(h.fill.full hl).cell]
  simp [hb, ptr]

theorem Iter.intCell (h : Iter w kb vb mb ob ib n ka ss zs bs D k wr) {q b : Nat} {z : Int} (hb : bs[q]? = some b) (hz : zs[q]? = some z) : wr.cell? ⟨b, 0, none⟩ = some (.int .i64 z) := by
  rw [(h.fill.each q b z hb hz).cell]
  rfl
end

end Go.Proofs.Yoecww
