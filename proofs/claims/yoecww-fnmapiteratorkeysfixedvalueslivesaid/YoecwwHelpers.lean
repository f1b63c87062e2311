/-
  SEAT oecw: a slice that came in, as the walks take it; the contracts of the helpers that only read: the two bounds on bytes (15, 27), zzBytesOf (16), zzDistinct (17).
  Of the bounds and of zzBytesOf no law of this seat asks what they answer, only that they answer and write nothing.
-/
import Derived.Test.YoecwwBase
namespace Go.Proofs.Yoecww
open Go.RowKit

/-- A SLICE THAT CAME IN, AS THE WALKS TAKE IT: its elements' cells are vs; where it is empty nothing is said of its address. -/
structure Came (w : World) (a : Option Addr) (len : Nat) (vs : List Value) : Prop where
  count : vs.length = len
  place : len = 0 ∨ ∃ b off, a = some ⟨b, off, none⟩ ∧ b < w.heap.size ∧ ∀ i v, vs[i]? = some v → w.cell? ⟨b, off + i, none⟩ = some v

theorem Came.ptr {w : World} {a : Option Addr} {len : Nat} {vs : List Value} (h : Came w a len vs) {k : Nat} (hk : k < len) :
    ∃ b off, a = some ⟨b, off, none⟩ ∧ b < w.heap.size ∧ ∀ i v, vs[i]? = some v → w.cell? ⟨b, off + i, none⟩ = some v := by
  rcases h.place with h0 | h1
  · omega
  · exact h1

/-- The call returned a bool. -/
def SomeBool (e : Ending) : Prop := ∃ v, e = .returned (.bool v)
theorem someBool (v : Bool) : SomeBool (.returned (.bool v)) := ⟨v, rfl⟩

set_option maxHeartbeats 1000000 in
theorem bytes15_any (a0 a1 : Option Addr) (len0 cap0 len1 cap1 : Nat) (ss : List ByteArray) (w : World) (h : Came w a0 len0 (ss.map Value.string)) (h0 : len0 ≤ maxLen) (h1 : len1 ≤ maxLen) :
    Calls Ecwg.prog 15 #[.slice a0 len0 cap0, .slice a1 len1 cap1] w fun e w' => SomeBool e ∧ w' = w := by
  unfold maxLen at h0 h1
  by_cases hbig : 1048576 < len0
  · go_enter Ecwg.func15, Ecwg.ntmps15
    go_wp2
    go_ret
    exact ⟨someBool _, rfl⟩
  · go_enter Ecwg.func15, Ecwg.ntmps15
    go_wp2
    go_loop [5, 6] (fun z i => ∃ (q : Int) (k : Nat), 0 ≤ q ∧ q ≤ 1048576 ∧ k ≤ len0 ∧ z = .int .i64 q ∧ i = .int .i64 k) (fun _ i => len0 - (intOf i).toNat)
    case atStart => exact ⟨len0, 0, by omega, by omega, by omega, rfl, rfl⟩
    case round =>
      obtain ⟨q, k, hq0, hq1, hk, rfl, rfl⟩ := hrel
      by_cases hlt : k < len0
      · obtain ⟨b, off, rfl, hb, hc⟩ := h.ptr hlt
        obtain ⟨s, hs⟩ : ∃ s, ss[k]? = some s := ⟨_, List.getElem?_eq_getElem (by have := h.count; simp at this; omega)⟩
        have hcx : w.cell? ⟨b, off + k, none⟩ = some (.string s) := hc k _ (by simp [hs])
        clear hc
        by_cases h3 : 1048576 < s.size
        · go_wp2
          go_ret
          exact ⟨someBool _, rfl⟩
        · by_cases h4 : 1048576 < q + s.size
          · go_wp2
            go_ret
            exact ⟨someBool _, rfl⟩
          · go_wp2
            go_round
            case rel => exact ⟨q + s.size, k + 1, by omega, by omega, by omega, rfl, by go_num⟩
            case measure => simp [intOf]; omega
      · by_cases h5 : 1048576 < len1
        · go_wp2
          go_ret
          exact ⟨someBool _, rfl⟩
        · by_cases h6 : 1048576 < q + len1
          · go_wp2
            go_ret
            exact ⟨someBool _, rfl⟩
          · go_wp2
            go_ret
            exact ⟨someBool _, rfl⟩

set_option maxHeartbeats 1000000 in
theorem bytes27_any (a0 a1 : Option Addr) (len0 cap0 len1 cap1 : Nat) (ss : List ByteArray) (w : World) (h : Came w a0 len0 (ss.map Value.string)) (h0 : len0 ≤ maxLen) (h1 : len1 ≤ maxLen) :
    Calls Ecwg.prog 27 #[.slice a0 len0 cap0, .slice a1 len1 cap1] w fun e w' => SomeBool e ∧ w' = w := by
  unfold maxLen at h0 h1
  by_cases hbig : 1048576 < len0
  · go_enter Ecwg.func27, Ecwg.ntmps27
    go_wp2
    go_ret
    exact ⟨someBool _, rfl⟩
  · go_enter Ecwg.func27, Ecwg.ntmps27
    go_wp2
    go_loop [5, 6] (fun z i => ∃ (q : Int) (k : Nat), 0 ≤ q ∧ q ≤ 1048576 ∧ k ≤ len0 ∧ z = .int .i64 q ∧ i = .int .i64 k) (fun _ i => len0 - (intOf i).toNat)
    case atStart => exact ⟨len0, 0, by omega, by omega, by omega, rfl, rfl⟩
    case round =>
      obtain ⟨q, k, hq0, hq1, hk, rfl, rfl⟩ := hrel
      by_cases hlt : k < len0
      · obtain ⟨b, off, rfl, hb, hc⟩ := h.ptr hlt
        obtain ⟨s, hs⟩ : ∃ s, ss[k]? = some s := ⟨_, List.getElem?_eq_getElem (by have := h.count; simp at this; omega)⟩
        have hcx : w.cell? ⟨b, off + k, none⟩ = some (.string s) := hc k _ (by simp [hs])
        clear hc
        by_cases h3 : 1048576 < s.size
        · go_wp2
          go_ret
          exact ⟨someBool _, rfl⟩
        · by_cases h4 : 1048576 < q + s.size
          · go_wp2
            go_ret
            exact ⟨someBool _, rfl⟩
          · go_wp2
            go_round
            case rel => exact ⟨q + s.size, k + 1, by omega, by omega, by omega, rfl, by go_num⟩
            case measure => simp [intOf]; omega
      · by_cases h5 : 1048576 < len1
        · go_wp2
          go_ret
          exact ⟨someBool _, rfl⟩
        · by_cases h6 : 1048576 < q + len1
          · go_wp2
            go_ret
            exact ⟨someBool _, rfl⟩
          · go_wp2
            go_ret
            exact ⟨someBool _, rfl⟩

/-- The call returned an int. -/
def SomeInt (e : Ending) : Prop := ∃ v, e = .returned (.int .i64 v)
theorem someInt (v : Int) : SomeInt (.returned (.int .i64 v)) := ⟨v, rfl⟩

set_option maxHeartbeats 1000000 in
theorem bytesOf_any (a0 a1 : Option Addr) (len0 cap0 len1 cap1 : Nat) (ss : List ByteArray) (w : World) (h : Came w a0 len0 (ss.map Value.string)) (h0 : len0 ≤ 4096) (h1 : len1 ≤ 4096) :
    Calls Ecwg.prog 16 #[.slice a0 len0 cap0, .slice a1 len1 cap1] w fun e w' => SomeInt e ∧ w' = w := by
  go_enter Ecwg.func16, Ecwg.ntmps16
  go_wp2
  go_loop [5, 6] (fun z i => ∃ (q : Int) (k : Nat), k ≤ len0 ∧ z = .int .i64 q ∧ i = .int .i64 k) (fun _ i => len0 - (intOf i).toNat)
  case atStart => exact ⟨_, 0, by omega, rfl, rfl⟩
  case round =>
    obtain ⟨q, k, hk, rfl, rfl⟩ := hrel
    by_cases hlt : k < len0
    · obtain ⟨b, off, rfl, hb, hc⟩ := h.ptr hlt
      obtain ⟨s, hs⟩ : ∃ s, ss[k]? = some s := ⟨_, List.getElem?_eq_getElem (by have := h.count; simp at this; omega)⟩
      have hcx : w.cell? ⟨b, off + k, none⟩ = some (.string s) := hc k _ (by simp [hs])
      clear hc
      go_wp2
      go_round
      case rel => exact ⟨_, k + 1, by omega, rfl, by go_num⟩
      case measure => simp [intOf]; omega
    · go_wp2
      go_ret
      exact ⟨someInt _, rfl⟩

/-- What zzDistinct's yes says. -/
def Apart (ss : List ByteArray) : Prop := ∀ (i j : Nat) (s t : ByteArray), i < j → ss[i]? = some s → ss[j]? = some t → (s.toList == t.toList) = false

/-- The call returned a bool, and its yes says p. -/
def YesSays (e : Ending) (p : Prop) : Prop := ∃ v, e = .returned (.bool v) ∧ (v = true → p)
theorem saysNo (p : Prop) : YesSays (.returned (.bool false)) p := ⟨false, rfl, fun h => by cases h⟩
theorem saysYes {p : Prop} (h : p) : YesSays (.returned (.bool true)) p := ⟨true, rfl, fun _ => h⟩

/-- After the rounds i' < i, and of round i the looks at j' < j. -/
def ApartTo (ss : List ByteArray) (i j : Nat) : Prop := ∀ (i' j' : Nat) (s t : ByteArray), i' < j' → (i' < i ∨ (i' = i ∧ j' < j)) → ss[i']? = some s → ss[j']? = some t → (s.toList == t.toList) = false

theorem ApartTo.zero (ss : List ByteArray) : ApartTo ss 0 0 := fun _ _ _ _ _ h => by omega
theorem ApartTo.start {ss : List ByteArray} {i : Nat} (h : ApartTo ss i 0) : ApartTo ss i (i + 1) := fun i' j' s t h1 h2 => h i' j' s t h1 (by omega)
theorem ApartTo.step {ss : List ByteArray} {i j : Nat} {s t : ByteArray} (h : ApartTo ss i j) (hs : ss[i]? = some s) (ht : ss[j]? = some t) (hne : (s.toList == t.toList) = false) : ApartTo ss i (j + 1) := fun i' j' s' t' h1 h2 hs' ht' => by
  by_cases hj : i' = i ∧ j' = j
  · obtain ⟨rfl, rfl⟩ := hj
    rw [hs] at hs'
    rw [ht] at ht'
    cases hs'
    cases ht'
    exact hne
  · exact h i' j' s' t' h1 (by omega) hs' ht'
theorem ApartTo.next {ss : List ByteArray} {i j : Nat} (h : ApartTo ss i j) (hj : ss.length ≤ j) : ApartTo ss (i + 1) 0 := fun i' j' s t h1 h2 hs ht => by
  have := (List.getElem?_eq_some_iff.1 ht).1
  exact h i' j' s t h1 (by omega) hs ht
theorem ApartTo.all {ss : List ByteArray} {i : Nat} (h : ApartTo ss i 0) (hi : ss.length ≤ i) : Apart ss := fun i' j' s t h1 hs ht => by
  have := (List.getElem?_eq_some_iff.1 hs).1
  exact h i' j' s t h1 (by omega) hs ht

set_option maxHeartbeats 1000000 in
theorem distinct_any (a0 : Option Addr) (len0 cap0 : Nat) (ss : List ByteArray) (w : World) (h : Came w a0 len0 (ss.map Value.string)) (h0 : len0 ≤ 4096) :
    Calls Ecwg.prog 17 #[.slice a0 len0 cap0] w fun e w' => YesSays e (Apart ss) ∧ ∃ d, w' = w.drewN d := by
  have hlen : ss.length = len0 := by have := h.count; simpa using this
  have HL : Hid (ss.length = len0) := hlen
  clear hlen
  go_enter Ecwg.func17, Ecwg.ntmps17
  go_wp2
  go_loopw [3] (fun i wr => ∃ k : Nat, k ≤ len0 ∧ i = .int .i64 k ∧ ApartTo ss k 0 ∧ ∃ d, wr = w.drewN d) (fun i _ => len0 - (intOf i).toNat)
  case atStart => exact ⟨0, by omega, rfl, ApartTo.zero ss, 0, rfl⟩
  case round =>
    obtain ⟨k, hk, rfl, hA, d, rfl⟩ := hrel
    by_cases hlt : k < len0
    · obtain ⟨b, off, rfl, hb, hc⟩ := h.ptr hlt
      obtain ⟨s, hs⟩ : ∃ s, ss[k]? = some s := ⟨_, List.getElem?_eq_getElem (by have := HL.out; omega)⟩
      have hcx : w.cell? ⟨b, off + k, none⟩ = some (.string s) := hc k _ (by simp [hs])
      have HS : Hid (ss[k]? = some s) := hs
      clear hs
      go_wp2
      go_loopw [4] (fun j wr => ∃ m : Nat, k < m ∧ m ≤ len0 ∧ j = .int .i64 m ∧ ApartTo ss k m ∧ ∃ d, wr = w.drewN d) (fun j _ => len0 - (intOf j).toNat)
      case atStart => exact ⟨k + 1, by omega, by omega, by go_num, hA.start, d, rfl⟩
      case round =>
        obtain ⟨m, hm1, hm2, rfl, hB, d2, rfl⟩ := hrel
        by_cases hlm : m < len0
        · obtain ⟨t, ht⟩ : ∃ t, ss[m]? = some t := ⟨_, List.getElem?_eq_getElem (by have := HL.out; omega)⟩
          have hcy : w.cell? ⟨b, off + m, none⟩ = some (.string t) := hc m _ (by simp [ht])
          have HT : Hid (ss[m]? = some t) := ht
          clear ht hc
          by_cases he : (s.toList == t.toList) = true
          · go_wp2
            go_quiet (fail)
            go_wp2
            go_ret
            exact ⟨saysNo _, d2 + nq, by rw [World.drewN_drewN]⟩
          · have he' : (s.toList == t.toList) = false := by simpa using he
            have hB' := hB.step HS.out HT.out he'
            clear he
            go_wp2
            go_quiet (fail)
            go_wp2
            go_roundw
            case rel => exact ⟨m + 1, by omega, by omega, by go_num, hB', _, rfl⟩
            case measure => simp [intOf]; omega
        · have hN := hB.next (by have := HL.out; omega)
          clear hc
          go_wp2
          go_roundw
          case rel => exact ⟨k + 1, by omega, by go_num, hN, _, rfl⟩
          case measure => simp [intOf]; omega
    · have hY := hA.all (by have := HL.out; omega)
      go_wp2
      go_ret
      exact ⟨saysYes hY, _, rfl⟩

end Go.Proofs.Yoecww
