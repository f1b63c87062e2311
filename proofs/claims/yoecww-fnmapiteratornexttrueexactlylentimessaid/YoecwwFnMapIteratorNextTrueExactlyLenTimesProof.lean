/-
  'Rows.FnMapIteratorNextTrueExactlyLenTimesSaid': over a map of n keys a run of calls of Next answers true for the first min(calls, n), and false after.
  The row's step is the kit's own shell (in the form over 'Below'); the walk is this seat's.
-/
import Derived.Test.YoecwwIter
import Derived.Test.YoecwwItoa
import Derived.Test.YoecwwMaps
import Derived.OpenShut
import Derived.ShutString
import Derived.ChangeOld
import Derived.Below
namespace Go.Proofs.Yoecww.fnMapIteratorNextTrueExactlyLenTimes
open Go.ChangeShapes Go.WideShapes Go.ChangeAt Go.RowKit
open Go.Maps Go.WideMaps
open Go.ChangeMaps (open_string shut_string)
set_option linter.unusedVariables false

theorem own : ownKnob Ecwg.prog.godebug = none := by kernel_rfl

theorem size_k (s : ByteArray) (h : s.size ≤ 24) : ((⟨#[107]⟩ : ByteArray) ++ s).size ≤ maxLen := by
  have h1 : (⟨#[107]⟩ : ByteArray).size = 1 := by decide +kernel
  have h2 : ((⟨#[107]⟩ : ByteArray) ++ s).size = (⟨#[107]⟩ : ByteArray).size + s.size := by simp
  unfold maxLen
  omega
theorem add_k (s : ByteArray) (h : s.size ≤ 24) (W : World) : (Op.stringOp .add ⟨#[107]⟩ s).run Ecwg.prog W = .ok (.string (⟨#[107]⟩ ++ s)) W := by
  refine run_string_add_sum W _ _ ?_
  have h1 : (⟨#[107]⟩ : ByteArray).size = 1 := by decide +kernel
  omega
set_option maxHeartbeats 1000000 in
theorem walk5 (n calls : Nat) (w : World) (hn : n ≤ 4096) (hc : calls ≤ 65536) :
    Calls Ecwg.prog 5 #[.int .i64 n, .int .i64 calls] w fun e w' => e = .returned (.bool true) ∧ Below w.heap.size w w' := by
  have hms := run_make_strings n (by omega)
  have hmm := run_makeMap_hint n
  go_enter Ecwg.func5, Ecwg.ntmps5
  go_wp2
  go_loopw [7] (fun j wr => ∃ k : Nat, k ≤ n ∧ j = .int .i64 k ∧ (∃ xs : List Value, xs.length = n ∧ Row wr w.heap.size 9 xs) ∧ (∃ D, wr.ownsMap Ecwg.prog 9 rdr (w.heap.size + 1) k D) ∧ Below w.heap.size w wr) (fun j _ => n - (intOf j).toNat)
  case atStart =>
    refine ⟨0, by omega, rfl, ⟨List.replicate n (.string ByteArray.empty), by simp, (Row.made w 9 _).alloc _⟩, ⟨.map [], ?_⟩, ((Below.refl _ _).alloc (Nat.le_refl _) _).alloc (by simp) _⟩
    have := World.ownsMap_made (w.alloc (.cells (List.replicate n (.string ByteArray.empty)).toArray 9)) Ecwg.prog 9 rdr
    simpa using this
  case round =>
    obtain ⟨k, hk, rfl, ⟨xs, hxl, hrow⟩, ⟨D, hown⟩, hb⟩ := hrel
    by_cases hlt : k < n
    · clear hms hmm
      obtain ⟨v, hv⟩ : ∃ v, xs[k]? = some v := ⟨_, List.getElem?_eq_getElem (by omega)⟩
      go_wp2_with fail
      refine (itoa_any _ _ (by omega) (by omega)).mono ?_
      rintro e w1 ⟨s, rfl, hs, hb1⟩
      have hrow1 := hrow.below hb1 hrow.lt
      have c1 : w1.cell? ⟨w.heap.size, k, none⟩ = some v := (hrow1.cell k).trans hv
      have f1 := hrow1.frozen k
      obtain ⟨t, ht⟩ : ∃ t, t = (⟨#[107]⟩ : ByteArray) ++ s := ⟨_, rfl⟩
      have p1 : ∀ W, (Op.stringOp .add ⟨#[107]⟩ s).run Ecwg.prog W = .ok (.string t) W := fun W => by rw [ht]; exact add_k s hs W
      have htl : t.size ≤ maxLen := by rw [ht]; exact size_k s hs
      have c2 : (w1.setCell ⟨w.heap.size, k, none⟩ (.string t)).cell? ⟨w.heap.size, k, none⟩ = some (.string t) := by
        rw [(hrow1.put_same k _).cell, List.getElem?_set_self (by omega)]
      have hrow2 := hrow1.put_same k (.string t)
      have hown2 : (w1.setCell ⟨w.heap.size, k, none⟩ (.string t)).ownsMap Ecwg.prog 9 rdr (w.heap.size + 1) k D :=
        (ownsMap_below hown hb1).setCell (by simp) _
      have hb2 : Below w.heap.size w (w1.setCell ⟨w.heap.size, k, none⟩ (.string t)) := (hb.trans (hb1.mono hb.size)).setCell (Nat.le_refl _) _
      have HT : Hid (t.size ≤ maxLen) := htl
      clear ht hrow hown hb hb1 htl
      go_wp2_with (at_mapUpdate; refine wpList_mapUpdate_own _ rfl _ _ _ 29 rfl 9 55 law9 Ecwg.underlying29 rdr (w.heap.size + 1) k D rfl (hown2.alloc _) (by unfold maxLen; omega) _ _ _ rfl rfl (keyOf_string_mk Ecwg.underlying9 HT.out) _ [] rfl ?_; intro w3 hown3 hg3)
      have hrow3 := (hrow2.alloc (.cells #[.int .i64 (k : Int)] 53)).grown hg3 (by simp)
      have hb2a := hb2.alloc hb2.size (.cells #[.int .i64 (k : Int)] 53)
      have hb3 := hb2a.grown hg3 hb2a.size (fun j hj => by cases hj; omega)
      clear hg3 hown2 hb2 hb2a hrow2 c2 c1 f1 p1
      go_wp2
      go_roundw
      case rel => exact ⟨k + 1, by omega, by go_num, ⟨_, by simp [hxl], hrow3⟩, ⟨_, hown3⟩, hb3⟩
      case measure => simp [intOf]; omega
    · obtain rfl : k = n := by omega
      go_wp2_with fail
      refine (new_any _ _ _ _ _).mono ?_
      rintro e w1 ⟨rfl, rfl⟩
      have hit := Row.made wr 32 (itCells (w.heap.size + 1) (some ⟨w.heap.size, 0, none⟩) k k 0)
      have hb1 := hb.alloc hb.size (.cells (itCells (w.heap.size + 1) (some ⟨w.heap.size, 0, none⟩) k k 0).toArray 32)
      have hs : w.heap.size ≤ wr.heap.size := hb.size
      generalize wr.alloc (.cells (itCells (w.heap.size + 1) (some ⟨w.heap.size, 0, none⟩) k k 0).toArray 32) = W at *
      generalize wr.heap.size = ib at *
      clear hb hown hrow hxl xs D
      by_cases hcn : k < calls
      all_goals
        go_wp2
        go_loopw [10] (fun b wr => ∃ c : Nat, c ≤ calls ∧ b = .int .i64 c ∧ Row wr ib 32 (itCells (w.heap.size + 1) (some ⟨w.heap.size, 0, none⟩) k k c) ∧ Below w.heap.size w wr) (fun b _ => calls - (intOf b).toNat)
        case atStart => exact ⟨0, by omega, rfl, hit, hb1⟩
        case round =>
          clear hb1 hit
          obtain ⟨c, hcl, rfl, hit, hb⟩ := hrel
          by_cases hcc : c < calls
          · by_cases hck : c < k
            · have e1 : decide ((c : Int) + 1 ≤ (k : Int)) = true := by rw [decide_eq_true_eq]; omega
              go_wp2_with fail
              refine (next_any ib _ _ k k c _ (by omega) (by omega) hit).mono ?_
              rintro e w1 ⟨rfl, d, rfl⟩
              have hit1 := next_row hit d
              have hb1 := below_drewN (hb.setCell (p := ⟨ib, 2, none⟩) hs (.int .i64 ((c : Int) + 1))) d
              rw [e1]
              clear e1
              go_wp2
              go_roundw
              case rel => exact ⟨c + 1, by omega, by go_num, hit1, hb1⟩
              case measure => simp [intOf]; omega
            · have e1 : decide ((c : Int) + 1 ≤ (k : Int)) = false := by rw [decide_eq_false_iff_not]; omega
              first
              | omega
              | (go_wp2_with fail
                 refine (next_any ib _ _ k k c _ (by omega) (by omega) hit).mono ?_
                 rintro e w1 ⟨rfl, d, rfl⟩
                 have hit1 := next_row hit d
                 have hb1 := below_drewN (hb.setCell (p := ⟨ib, 2, none⟩) hs (.int .i64 ((c : Int) + 1))) d
                 rw [e1]
                 clear e1
                 go_wp2
                 go_roundw
                 case rel => exact ⟨c + 1, by omega, by go_num, hit1, hb1⟩
                 case measure => simp [intOf]; omega)
          · go_wp2
            go_ret
            exact ⟨rfl, hb⟩

theorem walk (a0 : Int) (a1 : Int) (w0 : (Lit.int .i64 a0).wf = true) (w1 : (Lit.int .i64 a1).wf = true) (w : World) :
    Calls Ecwg.prog 5 #[.int .i64 a0, .int .i64 a1] w fun e w' => e = .returned (.bool true) ∧ Below w.heap.size w w' := by
  by_cases h1 : a0 < 0
  · go_enter Ecwg.func5, Ecwg.ntmps5
    go_wp2
    go_ret
    exact ⟨rfl, Below.refl _ _⟩
  · by_cases h2 : 4096 < a0
    · go_enter Ecwg.func5, Ecwg.ntmps5
      go_wp2
      go_ret
      exact ⟨rfl, Below.refl _ _⟩
    · by_cases h3 : a1 < 0
      · go_enter Ecwg.func5, Ecwg.ntmps5
        go_wp2
        go_ret
        exact ⟨rfl, Below.refl _ _⟩
      · by_cases h4 : 65536 < a1
        · go_enter Ecwg.func5, Ecwg.ntmps5
          go_wp2
          go_ret
          exact ⟨rfl, Below.refl _ _⟩
        · obtain ⟨n, rfl⟩ := Int.eq_ofNat_of_zero_le (show 0 ≤ a0 by omega)
          obtain ⟨c, rfl⟩ := Int.eq_ofNat_of_zero_le (show 0 ≤ a1 by omega)
          exact walk5 n c w (by omega) (by omega)

/-! ### THE ROW's STEP: WRITTEN OUT: LEAVE IT -/
set_option maxRecDepth 100000 in
theorem lifted (os : Os) (started : os.Started) (H : Type) (enc : TypeId × Value → H) :
    ReturnsInHanded {} Ecwg.checked os 5 .any (Rows.fnMapIteratorNextTrueExactlyLenTimesSpec.pre6 enc Ecwg.prog Ecwg.f5 Rows.fnMapIteratorNextTrueExactlyLenTimesRow.domain false) (Rows.fnMapIteratorNextTrueExactlyLenTimesSpec.post enc Ecwg.prog Ecwg.f5 false true false false) := by
  refine returnsInHanded_of_change (C := Ecwg.checked) own started (by kernel_rfl) Ecwg.func5
    (ChangeSpec.witness6 (enc := enc) (C := Ecwg.checked) false ⟨#[], #[.int .i64 0, .int .i64 0], []⟩ 8 (by kernel_rfl) (by kernel_rfl) (by kernel_rfl) (by kernel_rfl)) ?_
  intro W base args ds gs before hval0 hW hcnd _
  have hval : ∀ (j : Nat) t v, Ecwg.f5.params[j]? = some t → args[j]? = some v → Value.okWide Ecwg.prog W .any base t v := hval0
  have hW' := hW
  obtain ⟨p, q, hA0, hV, rfl, hfz, hnd⟩ := hW
  have hA : DataW.TrodAll enc Ecwg.prog W 0 (fun _ => true) true Ecwg.f5.params.toList args.toList ds p := hA0
  rw [Ecwg.params5] at hA hval
  obtain ⟨v0, vs0, d0, ds0, p0, q0, hargs, rfl, rfl, h0, r0⟩ := trodAll_cons hA
  obtain ⟨v1, vs1, d1, ds1, p1, q1, rfl, rfl, rfl, h1, r1⟩ := trodAll_cons r0
  obtain ⟨rfl, rfl, rfl⟩ := trodAll_nil r1
  obtain rfl : args = #[v0, v1] := by cases args; simp_all
  obtain ⟨rfl, rfl⟩ := trodVars_none hV
  obtain ⟨a0, rfl, rfl, rfl, w0⟩ := open_int Ecwg.underlying3 (hval 0 3 v0 rfl rfl) h0
  obtain ⟨a1, rfl, rfl, rfl, w1⟩ := open_int Ecwg.underlying3 (hval 1 3 v1 rfl rfl) h1
  clear hA0 hval0
  refine (walk a0 a1 w0 w1 W).mono fun e W' ⟨he, bel⟩ => ?_
  subst he
  exact ⟨_, rfl, _, _, _, [], _, [], hW', trodAll_mk1 (shut_bool Ecwg.underlying4 _), (trodAll_cons_mk (shut_int Ecwg.underlying3 w0) (trodAll_cons_mk (shut_int Ecwg.underlying3 w1) trodAll_mk0)), rfl, bel.frame _, fun h => by cases h⟩

theorem over : Rows.fnMapIteratorNextTrueExactlyLenTimesRow.holds Ecwg.pinned (OpenSpec.ofChange Rows.fnMapIteratorNextTrueExactlyLenTimesSpec) :=
  OpenClaim.holds_of_wide 5 Ecwg.f5 rfl rfl rfl rfl rfl rfl rfl ⟨rfl, rfl, rfl, rfl, rfl⟩ rfl rfl rfl rfl rfl (by kernel_rfl) Ecwg.func5 (by kernel_rfl)
    (of_decide_eq_true (by kernel_rfl)) (by unfold Func.isWrapper; first | (rw [if_pos (by decide +kernel)]; kernel_rfl) | (rw [if_neg (by decide +kernel)]; exact ⟨rfl, rfl⟩))
    (fun os started H enc _ => lifted os started H enc)

/-- ████ THE STATEMENT ████ -/
theorem proved : Rows.FnMapIteratorNextTrueExactlyLenTimesSaid :=
  over
#print axioms proved
end Go.Proofs.Yoecww.fnMapIteratorNextTrueExactlyLenTimes
