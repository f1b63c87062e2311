/-
  'Rows.FnMapIteratorKeysFixedValuesLiveSaid': keys come from the list taken at the start, values from the map at the time Value is called: an entry replaced at an even step gives the new object, one deleted at an odd step the nil Object; the keys still come out all and in order, and Next then stays false.
  The row's step is the kit's own frame (in the form over 'Below'), with this seat's 'came_strings', 'came_ints' for the two slices; the walk is this seat's.
-/
import Derived.Test.YoecwwLive
import Derived.Test.YoecwwArgs
import Derived.ShutString
import Derived.ChangeOld
import Derived.Below
namespace Go.Proofs.Yoecww.fnMapIteratorKeysFixedValuesLive
open Go.ChangeShapes Go.WideShapes Go.ChangeAt Go.RowKit
open Go.Maps Go.WideMaps
set_option linter.unusedVariables false

theorem own : ownKnob Ecwg.prog.godebug = none := by kernel_rfl
theorem laidOut : laidOutB Ecwg.prog = true := by kernel_rfl

set_option maxRecDepth 100000 in
set_option maxHeartbeats 2000000 in
theorem walk6 (a0 a1 : Option Addr) (len0 cap0 len1 cap1 : Nat) (ss : List ByteArray) (zs : List Int) (w : World)
    (h0 : Came w a0 len0 (ss.map Value.string)) (h1 : Came w a1 len1 (zs.map (Value.int .i64))) (hss : ∀ s ∈ ss, s.size ≤ maxLen) (n0 : a0 = none → len0 = 0) (n1 : a1 = none → len1 = 0) (m0 : len0 ≤ maxLen) (m1 : len1 ≤ maxLen) :
    Calls Ecwg.prog 6 #[.slice a0 len0 cap0, .slice a1 len1 cap1] w fun e w' => e = .returned (.bool true) ∧ Below w.heap.size w w' := by
  go_enter Ecwg.func6, Ecwg.ntmps6
  go_wp2_with fail
  refine (bytes27_any a0 a1 len0 cap0 len1 cap1 ss w h0 m0 m1).mono ?_
  rintro e w ⟨⟨v, rfl⟩, rfl⟩
  unfold maxLen at m0 m1
  cases v with
  | false =>
    go_wp2
    go_ret
    exact ⟨rfl, Below.refl _ _⟩
  | true =>
    by_cases hb0 : 4096 < len0
    · go_wp2
      go_ret
      exact ⟨rfl, Below.refl _ _⟩
    by_cases hb1 : 4096 < len1
    · go_wp2
      go_ret
      exact ⟨rfl, Below.refl _ _⟩
    go_wp2_with fail
    refine (bytesOf_any a0 a1 len0 cap0 len1 cap1 ss w h0 (by omega) (by omega)).mono ?_
    rintro e w ⟨⟨z, rfl⟩, rfl⟩
    by_cases hz : 1048576 < z
    · go_wp2
      go_ret
      exact ⟨rfl, Below.refl _ _⟩
    by_cases hne : len0 = len1
    · subst hne
      go_wp2_with fail
      refine (distinct_any a0 len0 cap0 ss w h0 (by omega)).mono ?_
      rintro e w1 ⟨⟨v, rfl, hA⟩, d, rfl⟩
      cases v with
      | false =>
        go_wp2
        go_ret
        exact ⟨rfl, below_drewN (Below.refl _ _) _⟩
      | true =>
        have hAp := hA rfl
        clear hA
        go_wp2_with fail
        refine (cloneStrings_any a0 len0 cap0 _ (w.drewN d) (h0.drewN d) n0 (by omega) (by simp)).mono ?_
        rintro e w1 ⟨ka, rfl, hw1, hk0⟩
        have hk1 : 0 < len0 → ka = some ⟨w.heap.size, 0, none⟩ ∧ Row w1 w.heap.size 9 (ss.map Value.string) := hk0
        clear hk0
        go_wp2_with fail
        refine (cloneInts_any a1 len0 cap1 _ w1 ((h1.drewN d).below hw1) n1 (by omega) (by simp)).mono ?_
        rintro e w2 ⟨va, rfl, hw2, hk2⟩
        have hmm := run_makeMap_hint len0
        have hmp := run_make_ptrs len0 (by omega)
        have hmb : w.heap.size ≤ w2.heap.size := Nat.le_trans hw1.size hw2.size
        obtain ⟨hF, hN, hB⟩ := fill_start hw1 hk1 hw2 hk2
        have hB2 := (below_drewN (Below.refl w.heap.size w) d).trans hB
        clear hB
        go_wp2
        go_loopw [8] (fun j wr => ∃ k : Nat, k ≤ len0 ∧ j = .int .i64 k ∧ Filling w w.heap.size w1.heap.size w2.heap.size (w2.heap.size + 1) len0 ss zs k wr) (fun j _ => len0 - (intOf j).toNat)
        case atStart => exact ⟨0, by omega, rfl, [], _, rfl, hF, hN, hB2⟩
        case round =>
          clear hF hN hB2 hmm hmp
          obtain ⟨k, hk, rfl, bs, D, hkl, hF, hN, hB⟩ := hrel
          by_cases hlt : k < len0
          · obtain ⟨rfl, -⟩ := hk1 (by omega)
            obtain ⟨rfl, -⟩ := hk2 (by omega)
            obtain ⟨s, hs⟩ : ∃ s, ss[k]? = some s := ⟨_, List.getElem?_eq_getElem (by have := h0.count; simp at this; omega)⟩
            obtain ⟨z, hz⟩ : ∃ z, zs[k]? = some z := ⟨_, List.getElem?_eq_getElem (by have := h1.count; simp at this; omega)⟩
            have R := round_facts hF hN hkl hlt hs hz
            have hsm := hss s (List.mem_of_getElem? hs)
            have hown := R.owns
            have c1 := R.val
            have c2 := R.obj
            have c3 := R.objF
            have c4 := R.key
            have l1 := R.lt
            have l2 := R.ltk
            have HR : Hid (bs.length = k ∧ ss[k]? = some s ∧ zs[k]? = some z ∧ s.size ≤ maxLen) := ⟨hkl, hs, hz, hsm⟩
            clear R hkl hs hz hsm
            go_wp2_with (at_mapUpdate; refine wpList_mapUpdate_own _ rfl _ _ _ 29 rfl 9 55 law9 Ecwg.underlying29 rdr w2.heap.size k D rfl hown (by unfold maxLen; omega) _ _ _ rfl rfl (key_ok HR.out.2.2.2) _ [] rfl ?_; intro w3 hown3 hg3)
            obtain ⟨hkl, hs, hz, hsm⟩ := HR.out
            clear c1 c2 c3 c4 l1 l2 hown HR
            have R := filling_step hF hN hB hkl hlt hs hz hAp hmb hown3 hg3
            clear hF hN hB hkl hs hz hown3 hg3
            go_roundw
            case rel => exact ⟨k + 1, by omega, by go_num, R⟩
            case measure => simp [intOf]; omega
          · obtain rfl : k = len0 := by omega
            go_wp2_with fail
            refine (new_any _ _ _ _ _).mono ?_
            rintro e w3 ⟨rfl, rfl⟩
            have hI := live_start (ka := ka) hF hN hB
            obtain ⟨ib, he⟩ : ∃ ib, ib = wr.heap.size := ⟨_, rfl⟩
            have hib : w.heap.size ≤ ib := by rw [he]; exact hB.size
            rw [← he] at hI hN ⊢
            clear hF hB he
            go_wp2
            go_loopw [11] (fun j wr => ∃ q : Nat, q ≤ k ∧ j = .int .i64 q ∧ Living w w.heap.size w1.heap.size w2.heap.size (w2.heap.size + 1) ib k ka ss zs bs q wr) (fun j _ => k - (intOf j).toNat)
            case atStart => exact ⟨0, by omega, rfl, k, D, by omega, hI⟩
            case round =>
              clear hI D
              obtain ⟨q, hq, rfl, m, D, hm, hL⟩ := hrel
              by_cases hqk : q < k
              · obtain ⟨rfl, -⟩ := hk1 (by omega)
                obtain ⟨rfl, -⟩ := hk2 (by omega)
                obtain ⟨s, hs⟩ : ∃ s, ss[q]? = some s := ⟨_, List.getElem?_eq_getElem (by have := h0.count; simp at this; omega)⟩
                obtain ⟨z, hz⟩ : ∃ z, zs[q]? = some z := ⟨_, List.getElem?_eq_getElem (by have := h1.count; simp at this; omega)⟩
                obtain ⟨b, hb⟩ : ∃ b, bs[q]? = some b := ⟨_, List.getElem?_eq_getElem (by omega)⟩
                have hsm := hss s (List.mem_of_getElem? hs)
                have HQ : Hid (ss[q]? = some s ∧ zs[q]? = some z ∧ bs[q]? = some b ∧ s.size ≤ maxLen ∧ bs.length = k) := ⟨hs, hz, hb, hsm, hkl⟩
                clear hs hz hb hsm hkl
                have e1 : decide ((q : Int) + 1 ≤ (k : Int)) = true := by rw [decide_eq_true_eq]; omega
                go_wp2_with fail
                refine (next_any ib _ _ k k q _ (by omega) (by omega) hL.it).mono ?_
                rintro e w3 ⟨rfl, d1, rfl⟩
                have hL := hL.next hN hib d1
                rw [e1]
                clear e1
                generalize (wr.setCell ⟨ib, 2, none⟩ (.int .i64 ((q : Int) + 1))).drewN d1 = W1 at hL ⊢
                by_cases hev : ((q : Int) % 2 == 0) = true
                · go_wp2_with fail
                  refine (value_hit ib _ _ k k q _ s D W1 _ (by omega) hqk hL.it (hL.keyCell HQ.out.1 hqk) HQ.out.2.2.2.1 hL.fill.map (hL.fill.elem q b s (Nat.le_refl _) HQ.out.2.2.1 HQ.out.1)).mono ?_
                  rintro e w3 ⟨rfl, d3, rfl⟩
                  have hL := hL.drewN d3
                  generalize W1.drewN d3 = W2 at hL ⊢
                  unfold ptr
                  go_wp2_with fail
                  refine (asInt_any _ _).mono ?_
                  rintro e W2 ⟨rfl, rfl⟩
                  have co := hL.objCell HQ.out.2.2.2.2 HQ.out.2.2.1
                  have ck := hL.keyCell HQ.out.1 hqk
                  have cv := hL.valCell HQ.out.2.1 hqk
                  have lk : w.heap.size < W2.heap.size := (hL.fill.keys (by omega)).lt
                  have hnq := run_neq_same
                  go_wp2_with (at_mapUpdate; refine wpList_mapUpdate_own _ rfl _ _ _ 29 rfl 9 55 law9 Ecwg.underlying29 rdr w2.heap.size m D rfl (hL.fill.map.alloc _) (by unfold maxLen; omega) _ _ _ rfl rfl (key_ok HQ.out.2.2.2.1) _ [] rfl ?_; intro w3 hown3 hg3)
                  have hD : IsMap D := hL.fill.map.isMap
                  have hL := (hL.alloc hN (.cells #[.int .i64 z] 53)).turned hN (by omega) hmb hown3 hg3 (put_keeps hAp HQ.out.1 _)
                  clear co ck cv lk hown3 hg3
                  generalize W2.heap.size = fb at hL ⊢
                  refine (value_hit ib _ _ k k q _ s _ w3 _ (by omega) hqk hL.it (hL.keyCell HQ.out.1 hqk) HQ.out.2.2.2.1 hL.fill.map (atKey_put_same hD (keyLit_key s) _ _)).mono ?_
                  rintro e w4 ⟨rfl, d4, rfl⟩
                  have hL := hL.drewN d4
                  generalize w3.drewN d4 = W4 at hL ⊢
                  go_wp2_with fail
                  refine (asInt_any _ _).mono ?_
                  rintro e W5 ⟨rfl, rfl⟩
                  go_wp2_with fail
                  refine (key_any ib _ _ k k q s W5 (by omega) hqk hL.it (hL.keyCell HQ.out.1 hqk)).mono ?_
                  rintro e w4 ⟨rfl, d2, rfl⟩
                  have cs : ((W5.alloc (.cells #[.string s, .slice none 0 0] 61)).drewN d2).cell? ⟨W5.heap.size, 0, none⟩ = some (.string s) := (Row.made W5 61 [.string s, .slice none 0 0]).cell 0
                  have hL := (hL.alloc hN (.cells #[.string s, .slice none 0 0] 61)).drewN d2
                  generalize (W5.alloc (.cells #[.string s, .slice none 0 0] 61)).drewN d2 = W6 at hL cs ⊢
                  generalize W5.heap.size = sb at cs ⊢
                  go_wp2_with fail
                  refine (asString_any _ _).mono ?_
                  rintro e W6 ⟨rfl, rfl⟩
                  have ck := hL.keyCell HQ.out.1 hqk
                  go_wp2
                  go_quiet (fail)
                  go_wp2
                  have hL := hL.drewN nq
                  go_roundw
                  case rel => exact ⟨q + 1, by omega, by go_num, m + 1, _, by omega, hL⟩
                  case measure => simp [intOf]; omega
                · have hev' : ((q : Int) % 2 == 0) = false := by simpa using hev
                  clear hev
                  have ck := hL.keyCell HQ.out.1 hqk
                  go_wp2_with (at_delete; refine wpList_delete_own _ rfl _ _ 29 9 rfl 55 law9 Ecwg.underlying29 rdr w2.heap.size m D rfl hL.fill.map _ _ rfl (key_ok HQ.out.2.2.2.1) ?_; intro w3 hown3 hturn3)
                  have hL := hL.turned hN (by omega) hmb hown3 hturn3.grown (del_keeps hAp HQ.out.1)
                  clear ck hown3 hturn3
                  refine (value_hit ib _ _ k k q _ s _ w3 _ (by omega) hqk hL.it (hL.keyCell HQ.out.1 hqk) HQ.out.2.2.2.1 hL.fill.map (atKey_del_same _)).mono ?_
                  rintro e w4 ⟨rfl, d4, rfl⟩
                  have hL := hL.drewN d4
                  generalize w3.drewN d4 = W4 at hL ⊢
                  go_wp2_with fail
                  refine (isNil_any _).mono ?_
                  rintro e W5 ⟨rfl, rfl⟩
                  go_wp2_with fail
                  refine (key_any ib _ _ k k q s W5 (by omega) hqk hL.it (hL.keyCell HQ.out.1 hqk)).mono ?_
                  rintro e w4 ⟨rfl, d2, rfl⟩
                  have cs : ((W5.alloc (.cells #[.string s, .slice none 0 0] 61)).drewN d2).cell? ⟨W5.heap.size, 0, none⟩ = some (.string s) := (Row.made W5 61 [.string s, .slice none 0 0]).cell 0
                  have hL := (hL.alloc hN (.cells #[.string s, .slice none 0 0] 61)).drewN d2
                  generalize (W5.alloc (.cells #[.string s, .slice none 0 0] 61)).drewN d2 = W6 at hL cs ⊢
                  generalize W5.heap.size = sb at cs ⊢
                  go_wp2_with fail
                  refine (asString_any _ _).mono ?_
                  rintro e W6 ⟨rfl, rfl⟩
                  have ck := hL.keyCell HQ.out.1 hqk
                  go_wp2
                  go_quiet (fail)
                  go_wp2
                  have hL := hL.drewN nq
                  go_roundw
                  case rel => exact ⟨q + 1, by omega, by go_num, m, _, by omega, hL⟩
                  case measure => simp [intOf]; omega
              · obtain rfl : q = k := by omega
                go_wp2
                go_loopw [16] (fun j wr => ∃ t : Nat, t ≤ 3 ∧ j = .int .i64 t ∧ Row wr ib 32 (itCells w2.heap.size ka q q ((q : Int) + t)) ∧ Below w.heap.size w wr) (fun j _ => 3 - (intOf j).toNat)
                case atStart => exact ⟨0, by omega, rfl, by simpa using hL.it, hL.old⟩
                case round =>
                  clear hL
                  obtain ⟨t, ht, rfl, hit, hold⟩ := hrel
                  by_cases ht3 : t < 3
                  · have e1 : decide ((q : Int) + t + 1 ≤ (q : Int)) = false := by rw [decide_eq_false_iff_not]; omega
                    go_wp2_with fail
                    refine (next_any ib _ _ q q _ _ (by omega) (by omega) hit).mono ?_
                    rintro e w3 ⟨rfl, d1, rfl⟩
                    have hit1 := next_row hit d1
                    have hold1 := below_drewN (hold.setCell (p := ⟨ib, 2, none⟩) hib (.int .i64 ((q : Int) + t + 1))) d1
                    rw [e1]
                    clear e1
                    go_wp2
                    go_roundw
                    case rel => exact ⟨t + 1, by omega, by go_num, by rw [show (q : Int) + ((t + 1 : Nat) : Int) = (q : Int) + t + 1 by omega]; exact hit1, hold1⟩
                    case measure => simp [intOf]; omega
                  · go_wp2
                    go_ret
                    exact ⟨rfl, hold⟩
    · have hne' : ((len0 : Int) != (len1 : Int)) = true := by rw [bne_iff_ne]; omega
      go_wp2
      go_ret
      exact ⟨rfl, Below.refl _ _⟩
/-! ### THE ROW's STEP -/
set_option maxRecDepth 100000 in
theorem lifted (os : Os) (started : os.Started) (H : Type) (enc : TypeId × Value → H) :
    ReturnsInHanded {} Ecwg.checked os 6 .any (Rows.fnMapIteratorKeysFixedValuesLiveSpec.pre6 enc Ecwg.prog Ecwg.f6 Rows.fnMapIteratorKeysFixedValuesLiveRow.domain false) (Rows.fnMapIteratorKeysFixedValuesLiveSpec.post enc Ecwg.prog Ecwg.f6 false true false false) := by
  refine returnsInHanded_of_change (C := Ecwg.checked) own started (by kernel_rfl) Ecwg.func6
    (ChangeSpec.witness6 (enc := enc) (C := Ecwg.checked) false ⟨#[], #[.slice none 0 0, .slice none 0 0], []⟩ 8 (by kernel_rfl) (by kernel_rfl) (by kernel_rfl) (by kernel_rfl)) ?_
  intro W base args ds gs before hval0 hW hcnd _
  have hval : ∀ (j : Nat) t v, Ecwg.f6.params[j]? = some t → args[j]? = some v → Value.okWide Ecwg.prog W .any base t v := hval0
  have hW' := hW
  obtain ⟨p, q, hA0, hV, rfl, hfz, hnd⟩ := hW
  have hA : DataW.TrodAll enc Ecwg.prog W 0 (fun _ => true) true Ecwg.f6.params.toList args.toList ds p := hA0
  rw [Ecwg.params6] at hA hval
  obtain ⟨v0, vs0, d0, ds0, p0, q0, hargs, rfl, rfl, h0, r0⟩ := trodAll_cons hA
  obtain ⟨v1, vs1, d1, ds1, p1, q1, rfl, rfl, rfl, h1, r1⟩ := trodAll_cons r0
  obtain ⟨rfl, rfl, rfl⟩ := trodAll_nil r1
  obtain rfl : args = #[v0, v1] := by cases args; simp_all
  obtain ⟨rfl, rfl⟩ := trodVars_none hV
  obtain ⟨a0, len0, cap0, rfl⟩ := okWide_slice Ecwg.underlying30 (hval 0 30 v0 rfl rfl)
  obtain ⟨a1, len1, cap1, rfl⟩ := okWide_slice Ecwg.underlying44 (hval 1 44 v1 rfl rfl)
  have lt0 : ∀ x ∈ p0, x.block < W.heap.size := by obtain ⟨m, hm⟩ := h0; exact DataW.trod_lt m _ _ _ hm
  have lt1 : ∀ x ∈ p1, x.block < W.heap.size := by obtain ⟨m, hm⟩ := h1; exact DataW.trod_lt m _ _ _ hm
  obtain ⟨ss, c0, hss, n0, m0⟩ := came_strings h0
  obtain ⟨zs, c1, n1, m1⟩ := came_ints h1
  clear hA0 hval0
  refine (walk6 a0 a1 len0 cap0 len1 cap1 ss zs W c0 c1 hss n0 n1 m0 m1).mono fun e W' ⟨he, bel⟩ => ?_
  subst he
  exact ⟨_, rfl, _, _, _, [], _, [], hW', trodAll_mk1 (shut_bool Ecwg.underlying4 _), (trodAll_cons_mk (Below.trod laidOut (by kernel_rfl) (of_decide_eq_true (by kernel_rfl)) h0 bel lt0) (trodAll_cons_mk (Below.trod laidOut (by kernel_rfl) (of_decide_eq_true (by kernel_rfl)) h1 bel lt1) trodAll_mk0)), rfl, bel.frame _, fun h => by cases h⟩

theorem over : Rows.fnMapIteratorKeysFixedValuesLiveRow.holds Ecwg.pinned (OpenSpec.ofChange Rows.fnMapIteratorKeysFixedValuesLiveSpec) :=
  OpenClaim.holds_of_wide 6 Ecwg.f6 rfl rfl rfl rfl rfl rfl rfl ⟨rfl, rfl, rfl, rfl, rfl⟩ rfl rfl rfl rfl rfl (by kernel_rfl) Ecwg.func6 (by kernel_rfl)
    (of_decide_eq_true (by kernel_rfl)) (by unfold Func.isWrapper; first | (rw [if_pos (by decide +kernel)]; kernel_rfl) | (rw [if_neg (by decide +kernel)]; exact ⟨rfl, rfl⟩))
    (fun os started H enc _ => lifted os started H enc)

/-- THE STATEMENT -/
theorem proved : Rows.FnMapIteratorKeysFixedValuesLiveSaid := over
#print axioms proved
end Go.Proofs.Yoecww.fnMapIteratorKeysFixedValuesLive
