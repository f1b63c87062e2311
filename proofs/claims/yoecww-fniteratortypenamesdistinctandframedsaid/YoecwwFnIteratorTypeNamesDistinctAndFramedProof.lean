/-
  'Rows.FnIteratorTypeNamesDistinctAndFramedSaid': the four iterator types' names differ, and each String is the name between angle brackets.
  The frame (the row's step) is the kit's own shell for this function; the walk and its small lemmas are this seat's.
-/
import Derived.Test.YoecwwRows
import Derived.WalkKit
import Derived.ProofKit
import Derived.OpenShut
import Derived.ShutString
import Derived.WalkLawsBesides
import Derived.Deep.QuietTactic
import Derived.BigQuiet
namespace Go.Proofs.Yoecww.fnIteratorTypeNamesDistinctAndFramed
open Go.ChangeShapes Go.WideShapes Go.ChangeAt Go.RowKit
open Go.ChangeMaps (open_string shut_string)
set_option linter.unusedVariables false

theorem own : ownKnob Ecwg.prog.godebug = none := by kernel_rfl

def nm : Nat → ByteArray
  | 0 => ⟨#[115, 116, 114, 105, 110, 103, 45, 105, 116, 101, 114, 97, 116, 111, 114]⟩
  | 1 => ⟨#[109, 97, 112, 45, 105, 116, 101, 114, 97, 116, 111, 114]⟩
  | 2 => ⟨#[97, 114, 114, 97, 121, 45, 105, 116, 101, 114, 97, 116, 111, 114]⟩
  | _ => ⟨#[98, 121, 116, 101, 115, 45, 105, 116, 101, 114, 97, 116, 111, 114]⟩
def st : Nat → ByteArray
  | 0 => ⟨#[60, 115, 116, 114, 105, 110, 103, 45, 105, 116, 101, 114, 97, 116, 111, 114, 62]⟩
  | 1 => ⟨#[60, 109, 97, 112, 45, 105, 116, 101, 114, 97, 116, 111, 114, 62]⟩
  | 2 => ⟨#[60, 97, 114, 114, 97, 121, 45, 105, 116, 101, 114, 97, 116, 111, 114, 62]⟩
  | _ => ⟨#[60, 98, 121, 116, 101, 115, 45, 105, 116, 101, 114, 97, 116, 111, 114, 62]⟩

structure Inv (w wr : World) : Prop where
  g : Grown w wr
  n : ∀ j, j < 4 → wr.cell? ⟨w.heap.size + 1 + 1 + 1 + 1, j, none⟩ = some (.string (nm j))
  s : ∀ j, j < 4 → wr.cell? ⟨w.heap.size + 1 + 1 + 1 + 1 + 1, j, none⟩ = some (.string (st j))

theorem Inv.drewN {w wr : World} (h : Inv w wr) (n : Nat) : Inv w (wr.drewN n) := ⟨h.g, h.n, h.s⟩

theorem framed (k : Nat) (h : k < 4) : (⟨#[60]⟩ ++ nm k) ++ ⟨#[62]⟩ = st k := by
  match k, h with
  | 0, _ => decide +kernel
  | 1, _ => decide +kernel
  | 2, _ => decide +kernel
  | 3, _ => decide +kernel
theorem nm_size (k : Nat) : (nm k).size ≤ 20 := by
  match k with
  | 0 => decide +kernel
  | 1 => decide +kernel
  | 2 => decide +kernel
  | _ + 3 => show (nm 3).size ≤ 20; decide +kernel
theorem apart (k m : Nat) (hm : m < 4) (h : k < m) : ((nm k).toList == (nm m).toList) = false := by
  have hk : k < 4 := by omega
  have H : ∀ a b : Fin 4, a.val < b.val → ((nm a.val).toList == (nm b.val).toList) = false := by decide +kernel
  exact H ⟨k, hk⟩ ⟨m, hm⟩ h

theorem size_app (a b : ByteArray) : (a ++ b).size = a.size + b.size := by simp
theorem add1 (k : Nat) (W : World) : (Op.stringOp .add ⟨#[60]⟩ (nm k)).run Ecwg.prog W = .ok (.string (⟨#[60]⟩ ++ nm k)) W := by
  refine run_string_add_sum W _ _ ?_
  have h1 : (⟨#[60]⟩ : ByteArray).size = 1 := by decide +kernel
  have := nm_size k
  omega
theorem add2 (k : Nat) (W : World) : (Op.stringOp .add (⟨#[60]⟩ ++ nm k) ⟨#[62]⟩).run Ecwg.prog W = .ok (.string ((⟨#[60]⟩ ++ nm k) ++ ⟨#[62]⟩)) W := by
  refine run_string_add_sum W _ _ ?_
  have h1 : (⟨#[60]⟩ : ByteArray).size = 1 := by decide +kernel
  have h2 : (⟨#[62]⟩ : ByteArray).size = 1 := by decide +kernel
  have := nm_size k
  rw [size_app]
  omega

set_option maxHeartbeats 1000000 in
theorem walk  (w : World) :
    Calls Ecwg.prog 3 #[] w fun e w' => e = .returned (.bool true) ∧ Grown w w' := by
  go_enter Ecwg.func3, Ecwg.ntmps3
  go_wp2
  go_loopw [7, 8] (fun i _ wr => ∃ k : Nat, k ≤ 4 ∧ i = .int .i64 k ∧ Inv w wr) (fun i _ _ => 4 - (intOf i).toNat)
  case atStart =>
    refine ⟨0, by omega, rfl, ⟨by repeat (first | exact Grown.refl _ | apply Grown.drew | apply Grown.alloc), ?_, ?_⟩⟩
    · intro j hj
      match j, hj with
      | 0, _ => simp [nm, go_sem]
      | 1, _ => simp [nm, go_sem]
      | 2, _ => simp [nm, go_sem]
      | 3, _ => simp [nm, go_sem]
    · intro j hj
      match j, hj with
      | 0, _ => simp [st, go_sem]
      | 1, _ => simp [st, go_sem]
      | 2, _ => simp [st, go_sem]
      | 3, _ => simp [st, go_sem]
  case round =>
    obtain ⟨k, hk, rfl, hI⟩ := hrel
    by_cases hlt : k < 4
    · obtain ⟨a, ha⟩ : ∃ a, a = nm k := ⟨_, rfl⟩
      have cn : wr.cell? ⟨w.heap.size + 1 + 1 + 1 + 1, k, none⟩ = some (.string a) := by rw [ha]; exact hI.n k hlt
      obtain ⟨b, hb⟩ : ∃ b, b = st k := ⟨_, rfl⟩
      have cs : wr.cell? ⟨w.heap.size + 1 + 1 + 1 + 1 + 1, k, none⟩ = some (.string b) := by rw [hb]; exact hI.s k hlt
      obtain ⟨c, hc⟩ : ∃ c, c = (⟨#[60]⟩ : ByteArray) ++ a := ⟨_, rfl⟩
      have p1 : ∀ W, (Op.stringOp .add ⟨#[60]⟩ a).run Ecwg.prog W = .ok (.string c) W := fun W => by rw [hc, ha]; exact add1 k W
      have p2 : ∀ W, (Op.stringOp .add c ⟨#[62]⟩).run Ecwg.prog W = .ok (.string b) W := fun W => by rw [hc, hb, ha, ← framed k hlt]; exact add2 k W
      have HA : Hid (a = nm k) := ha
      clear ha hb hc
      go_wp2
      go_quiet (fail)
      go_wp2
      have hI2 := hI.drewN nq
      have cn2 : (wr.drewN nq).cell? ⟨w.heap.size + 1 + 1 + 1 + 1, k, none⟩ = some (.string a) := cn
      clear cs p1 p2 cn hI
      generalize wr.drewN nq = wo at *
      go_loopw [8] (fun j wr => ∃ m : Nat, k < m ∧ m ≤ 4 ∧ j = .int .i64 m ∧ ∃ nd, wr = wo.drewN nd) (fun j _ => 4 - (intOf j).toNat)
      case atStart => exact ⟨k + 1, by omega, by omega, by go_num, 0, rfl⟩
      case round =>
        obtain ⟨m, hm1, hm2, rfl, nd, rfl⟩ := hrel
        by_cases hm : m < 4
        · obtain ⟨b, hb⟩ : ∃ b, b = nm m := ⟨_, rfl⟩
          have cm : wo.cell? ⟨w.heap.size + 1 + 1 + 1 + 1, m, none⟩ = some (.string b) := by rw [hb]; exact hI2.n m hm
          have hne : (a.toList == b.toList) = false := by rw [hb, HA.out]; exact apart k m hm hm1
          clear hb
          go_wp2
          go_quiet (fail)
          go_wp2
          go_roundw
          case rel => exact ⟨m + 1, by omega, by omega, by go_num, _, rfl⟩
          case measure => simp [intOf]; omega
        · go_wp2
          go_roundw
          case rel => exact ⟨k + 1, by omega, by go_num, hI2.drewN nd⟩
          case measure => simp [intOf]; omega
    · go_wp2
      go_ret
      exact ⟨rfl, hI.g⟩

/-! ### THE ROW's STEP: WRITTEN OUT: LEAVE IT -/
set_option maxRecDepth 100000 in
theorem lifted (os : Os) (started : os.Started) (H : Type) (enc : TypeId × Value → H) :
    ReturnsInHanded {} Ecwg.checked os 3 .any (Rows.fnIteratorTypeNamesDistinctAndFramedSpec.pre6 enc Ecwg.prog Ecwg.f3 Rows.fnIteratorTypeNamesDistinctAndFramedRow.domain false) (Rows.fnIteratorTypeNamesDistinctAndFramedSpec.post enc Ecwg.prog Ecwg.f3 false true false false) := by
  refine returnsInHanded_of_change (C := Ecwg.checked) own started (by kernel_rfl) Ecwg.func3
    (ChangeSpec.witness6 (enc := enc) (C := Ecwg.checked) false ⟨#[], #[], []⟩ 8 (by kernel_rfl) (by kernel_rfl) (by kernel_rfl) (by kernel_rfl)) ?_
  intro W base args ds gs before hval0 hW hcnd _
  have hval : ∀ (j : Nat) t v, Ecwg.f3.params[j]? = some t → args[j]? = some v → Value.okWide Ecwg.prog W .any base t v := hval0
  have hW' := hW
  obtain ⟨p, q, hA0, hV, rfl, hfz, hnd⟩ := hW
  have hA : DataW.TrodAll enc Ecwg.prog W 0 (fun _ => true) true Ecwg.f3.params.toList args.toList ds p := hA0
  rw [Ecwg.params3] at hA hval
  obtain ⟨rfl, rfl, rfl⟩ := trodAll_none hA
  obtain ⟨rfl, rfl⟩ := trodVars_none hV
  clear hA0 hval0
  simp only [List.append_nil] at hW'
  refine (walk  W).mono fun e W' ⟨he, hg⟩ => ?_
  subst he
  exact ⟨_, rfl, post_of_same (pa := []) (pv := []) hW' (fun _ _ _ => (trodAll_cons_mk (shut_bool Ecwg.underlying4 _) trodAll_mk0)) (fun sp _ => rfl) (fun _ _ => rfl) rfl
    (hg.frame _) hg.2.1 (ok_one (by kernel_rfl) rfl (okWide_bool_mk Ecwg.underlying4 _))⟩

theorem over : Rows.fnIteratorTypeNamesDistinctAndFramedRow.holds Ecwg.pinned (OpenSpec.ofChange Rows.fnIteratorTypeNamesDistinctAndFramedSpec) :=
  OpenClaim.holds_of_wide 3 Ecwg.f3 rfl rfl rfl rfl rfl rfl rfl ⟨rfl, rfl, rfl, rfl, rfl⟩ rfl rfl rfl rfl rfl (by kernel_rfl) Ecwg.func3 (by kernel_rfl)
    (of_decide_eq_true (by kernel_rfl)) (by unfold Func.isWrapper; first | (rw [if_pos (by decide +kernel)]; kernel_rfl) | (rw [if_neg (by decide +kernel)]; exact ⟨rfl, rfl⟩))
    (fun os started H enc _ => lifted os started H enc)

/-- ████ THE STATEMENT ████ -/
theorem proved : Rows.FnIteratorTypeNamesDistinctAndFramedSaid :=
  over
#print axioms proved
end Go.Proofs.Yoecww.fnIteratorTypeNamesDistinctAndFramed
