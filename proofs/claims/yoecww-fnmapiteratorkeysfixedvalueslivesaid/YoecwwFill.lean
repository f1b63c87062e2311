/-
  SEAT oecw: WHAT THE LAWS HAVE BUILT WHEN THE ITERATOR BEGINS, told of a world: the two clones' rows, the row of objects, each object's own block, and the map under the keys. What a round of the filling loop does to it, and that it stays while other blocks are written: no walk in sight.
-/
import Derived.Test.YoecwwMaps
import Derived.Test.YoecwwHelpers
namespace Go.Proofs.Yoecww
open Go.RowKit Go.Maps Go.WideMaps

/-- A pointer to block b. -/
def ptr (b : Nat) : Value := .pointer (some ⟨b, 0, none⟩)
/-- The key that a string is. -/
def keyLit (s : ByteArray) : Lit := .string s.data.toList

theorem key_ok {s : ByteArray} (hs : s.size ≤ maxLen) : keyOf Ecwg.prog 9 (.string s) = some (keyLit s) := keyOf_string_mk Ecwg.underlying9 hs

theorem keyLit_key (s : ByteArray) : WideAt.IsKeyLit (keyLit s) := trivial

theorem keyLit_ne {s t : ByteArray} (h : (s.toList == t.toList) = false) : keyLit s ≠ keyLit t := by
  intro e
  have e1 : s.data.toList = t.data.toList := Lit.string.inj e
  have e2 : s = t := by
    cases s
    cases t
    simp only [ByteArray.mk.injEq]
    exact Array.toList_inj.1 e1
  rw [e2] at h
  simp at h

/-- The blocks' numbers: the clones (where there is an element), the map, the row of objects, the objects, all below top. -/
structure Nums (kb vb mb ob n top : Nat) (bs : List Nat) : Prop where
  clones : 0 < n → kb < mb ∧ vb < mb
  objs : ob = mb + 1
  top_ : ob < top
  each : ∀ b, b ∈ bs → ob < b ∧ b < top

/-- THE STATE. 'm': a bound on the map's entries; 'lo': from which index on the map is known to hold the objects. -/
structure Fill (wr : World) (kb vb mb ob n m lo : Nat) (ss : List ByteArray) (zs : List Int) (bs : List Nat) (D : DataW Value) : Prop where
  keys : 0 < n → Row wr kb 9 (ss.map Value.string)
  vals : 0 < n → Row wr vb 2 (zs.map (Value.int .i64))
  objs : Row wr ob 51 (bs.map ptr ++ List.replicate (n - bs.length) (.pointer none))
  each : ∀ (i b : Nat) (z : Int), bs[i]? = some b → zs[i]? = some z → Row wr b 53 [.int .i64 z]
  map : wr.ownsMap Ecwg.prog 9 rdr mb m D
  elem : ∀ (i b : Nat) (s : ByteArray), lo ≤ i → bs[i]? = some b → ss[i]? = some s → D.atKey (keyLit s) (.held .nilIface) = .held (.iface 51 (ptr b))

variable {wr w' : World} {kb vb mb ob n m lo top : Nat} {ss : List ByteArray} {zs : List Int} {bs : List Nat} {D : DataW Value}

/-- It stays while a block that is none of its own is written, and new ones are made. -/
theorem Fill.kept (h : Fill wr kb vb mb ob n m lo ss zs bs D) (N : Nums kb vb mb ob n top bs) {row : Option Nat} (hg : wr.grownBy w' row) (hrow : ∀ b, row = some b → top ≤ b) : Fill w' kb vb mb ob n m lo ss zs bs D := by
  have ho := N.objs
  have ht := N.top_
  refine ⟨fun hn => (h.keys hn).grown hg ?_, fun hn => (h.vals hn).grown hg ?_, h.objs.grown hg ?_, fun i b z h1 h2 => (h.each i b z h1 h2).grown hg ?_, h.map.kept hg ?_, h.elem⟩
  · intro e
    have := hrow _ e.symm
    have := N.clones hn
    omega
  · intro e
    have := hrow _ e.symm
    have := N.clones hn
    omega
  · intro e
    have := hrow _ e.symm
    omega
  · intro e
    have := hrow _ e.symm
    have := N.each b (List.mem_of_getElem? h1)
    omega
  · intro e
    have := hrow _ e.symm
    omega

theorem size_setCell (w : World) (a : Addr) (v : Value) : (w.setCell a v).heap.size = w.heap.size := by simp [World.setCell]

theorem grownBy_setCell (w : World) (a : Addr) (v : Value) : w.grownBy (w.setCell a v) (some a.block) :=
  ⟨rfl, rfl, rfl, by simp [World.setCell], fun k _ hk => Below.heap_setCell _ _ _ _ (fun e => hk (by rw [e]))⟩

theorem Fill.drewN (h : Fill wr kb vb mb ob n m lo ss zs bs D) (d : Nat) : Fill (wr.drewN d) kb vb mb ob n m lo ss zs bs D :=
  ⟨h.keys, h.vals, h.objs, h.each, h.map, h.elem⟩

theorem Fill.alloc (h : Fill wr kb vb mb ob n m lo ss zs bs D) (N : Nums kb vb mb ob n top bs) (o : Obj) : Fill (wr.alloc o) kb vb mb ob n m lo ss zs bs D :=
  h.kept N (World.grownBy_alloc wr o none) (fun _ e => by cases e)

theorem Fill.put (h : Fill wr kb vb mb ob n m lo ss zs bs D) (N : Nums kb vb mb ob n top bs) {a : Addr} (ha : top ≤ a.block) (v : Value) : Fill (wr.setCell a v) kb vb mb ob n m lo ss zs bs D :=
  h.kept N (grownBy_setCell wr a v) (fun b e => by cases e; exact ha)

/-- The row of objects once all are there. -/
theorem Fill.full (h : Fill wr kb vb mb ob n m lo ss zs bs D) (hl : bs.length = n) : Row wr ob 51 (bs.map ptr) := by
  have := h.objs
  rw [hl, Nat.sub_self] at this
  simpa using this

/-- A ROUND OF THE FILLING LOOP: the object is laid, its pointer goes into the row of objects, then into the map under its key. -/
theorem Fill.round (h : Fill wr kb vb mb ob n m lo ss zs bs D) (N : Nums kb vb mb ob n wr.heap.size bs) (hk : bs.length < n) {s : ByteArray} {z : Int} (hs : ss[bs.length]? = some s) (hz : zs[bs.length]? = some z) (hA : Apart ss) {w3 : World}
    (hown : w3.ownsMap Ecwg.prog 9 rdr mb (m + 1) (D.put (keyLit s) (.held (.iface 51 (ptr wr.heap.size)))))
    (hg : ((wr.setCell ⟨ob, bs.length, none⟩ (ptr wr.heap.size)).alloc (.cells #[.int .i64 z] 53)).grownBy w3 (some mb)) :
    Fill w3 kb vb mb ob n (m + 1) lo ss zs (bs ++ [wr.heap.size]) (D.put (keyLit s) (.held (.iface 51 (ptr wr.heap.size)))) ∧ Nums kb vb mb ob n w3.heap.size (bs ++ [wr.heap.size]) := by
  have ho := N.objs
  have ht := N.top_
  have hc := N.clones (by omega)
  have hsz : wr.heap.size + 1 ≤ w3.heap.size := by
    have := hg.size
    simp [World.setCell] at this
    exact this
  have a1 := Row.made (wr.setCell ⟨ob, bs.length, none⟩ (ptr wr.heap.size)) 53 [.int .i64 z]
  rw [size_setCell] at a1
  have hobj := ((h.objs.put_same bs.length (ptr wr.heap.size)).alloc (.cells #[.int .i64 z] 53)).grown hg (by simp; omega)
  have hset : (bs.map ptr ++ List.replicate (n - bs.length) (Value.pointer none)).set bs.length (ptr wr.heap.size) = (bs ++ [wr.heap.size]).map ptr ++ List.replicate (n - (bs ++ [wr.heap.size]).length) (Value.pointer none) := by
    have e1 : (bs.map ptr).length = bs.length := by simp
    have e2 : n - bs.length = (n - (bs.length + 1)) + 1 := by omega
    rw [List.set_append_right _ _ (by omega), e1, Nat.sub_self, e2, List.replicate_succ, List.set_cons_zero]
    simp
  rw [hset] at hobj
  have keep : ∀ {b : Nat} {t : TypeId} {xs : List Value}, Row wr b t xs → b ≠ ob → b ≠ mb → Row w3 b t xs := fun hr h1 h2 =>
    ((hr.put_other (a := ⟨ob, bs.length, none⟩) h1 (ptr wr.heap.size)).alloc (.cells #[.int .i64 z] 53)).grown hg (by simpa using h2)
  refine ⟨⟨fun hn => keep (h.keys hn) (by omega) (by omega), fun hn => keep (h.vals hn) (by omega) (by omega), hobj, fun i b z' h1 h2 => ?_, hown, fun i b s' hlo h1 h2 => ?_⟩, ⟨N.clones, ho, by omega, fun b hb => ?_⟩⟩
  · by_cases hi : i < bs.length
    · rw [List.getElem?_append_left hi] at h1
      have := N.each b (List.mem_of_getElem? h1)
      exact keep (h.each i b z' h1 h2) (by omega) (by omega)
    · have hi' : i = bs.length := by
        have := (List.getElem?_eq_some_iff.1 h1).1
        simp at this
        omega
      subst hi'
      simp at h1
      subst h1
      rw [hz] at h2
      cases h2
      exact a1.grown hg (by simp; omega)
  · by_cases hi : i < bs.length
    · rw [List.getElem?_append_left hi] at h1
      have hne := keyLit_ne (hA i bs.length s' s hi h2 hs)
      rw [atKey_put_other hne]
      exact h.elem i b s' hlo h1 h2
    · have hi' : i = bs.length := by
        have := (List.getElem?_eq_some_iff.1 h1).1
        simp at this
        omega
      subst hi'
      simp at h1
      subst h1
      rw [hs] at h2
      cases h2
      exact atKey_put_same h.map.isMap (keyLit_key s) _ _
  · rcases List.mem_append.1 hb with hb | hb
    · have := N.each b hb
      omega
    · simp at hb
      subst hb
      omega

end Go.Proofs.Yoecww
