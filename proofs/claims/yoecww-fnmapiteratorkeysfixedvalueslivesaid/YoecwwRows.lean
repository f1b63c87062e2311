/-
  No cell of these rows narrows 'for every input' (looked for: loops, veiled, ifaces, maps, wideKeys, modest, calm, conditions, laid).
  DERIVED. THE GIVEN ROWS OF THIS SEAT. 4 by the template 'for every input the law returns true; each argument reads behind the call as it read before'; 0 by the template 'total and deterministic' (their statements: YoecwwTotals.lean).
  GIVEN WITH THE SEED: the statements are not yours to turn. If you find one false, say at which input.
  Laid BY PROGRAM, IN A SANDBOX (cutbox-rows.mjs): the forced cells as the released guide's own fill.sh prints them over the translation aa5ff823ff6523b3… (all of the seat's roots in one cut). By AI agents, Wed Nov 11 2026. No macro, syntax, notation, axiom, sorry.
-/
import Derived.Test.YoecwwChecked
import GoSem.Claim
import GoSem.ClaimJoined
import GoSem.ClaimMapViews
import Derived.JoinedTies
import Derived.KernelRfl
namespace Go.Proofs.Yoecww
/- THE CELL 'sum', in the pinned program and in every row, IS THE sha256 OF THE DUMP (.gsa) THAT YoecwwProg.lean LOADS. Nothing in Lean hashes anything: it is a label: what it is worth is what the hold of that sum in a sandbox is worth. -/
noncomputable def Ecwg.pinned : Pinned := { name := "yoecww", sum := "aa5ff823ff6523b3abcedb4cb6593d2b0e270a7599546c9e84dabc71790afd6b", checked := Ecwg.checked }
namespace Rows
def none {H : Type} : Left H := { results := [], args := [] }

/-- 'zzlaws_root_b3.FnIteratorTypeNamesDistinctAndFramed': WHATEVER THE INPUT: true; the input reads as it did. -/
def fnIteratorTypeNamesDistinctAndFramedSpec : ChangeSpec := { name := "fnIteratorTypeNamesDistinctAndFramed", fn := fun _ => fun
  | [] => { results := [.lit (.bool true)], args := [] }
  | _ => none }
def fnIteratorTypeNamesDistinctAndFramedRow : OpenClaim := { program := "yoecww", sum := "aa5ff823ff6523b3abcedb4cb6593d2b0e270a7599546c9e84dabc71790afd6b", func := "github.com/d5/tengo/v2/zzlaws_root_b3.FnIteratorTypeNamesDistinctAndFramed", spec := "fnIteratorTypeNamesDistinctAndFramed", apart := false }
def FnIteratorTypeNamesDistinctAndFramedSaid : Prop := fnIteratorTypeNamesDistinctAndFramedRow.holds Ecwg.pinned (OpenSpec.ofChange fnIteratorTypeNamesDistinctAndFramedSpec)

/-- ITS FALSE NEIGHBOUR: 'it returns false'. Refute it at one input. -/
def fnIteratorTypeNamesDistinctAndFramedWrong : ChangeSpec := { name := "fnIteratorTypeNamesDistinctAndFramed", fn := fun _ => fun
  | [] => { results := [.lit (.bool false)], args := [] }
  | _ => none }
def FnIteratorTypeNamesDistinctAndFramedWrongFalsely : Prop := fnIteratorTypeNamesDistinctAndFramedRow.holds Ecwg.pinned (OpenSpec.ofChange fnIteratorTypeNamesDistinctAndFramedWrong)

/-- 'zzlaws_root_b3.FnMapIteratorWalksKeyListInOrder': WHATEVER THE INPUT: true; the input reads as it did. -/
def fnMapIteratorWalksKeyListInOrderSpec : ChangeSpec := { name := "fnMapIteratorWalksKeyListInOrder", fn := fun _ => fun
  | [d1, d2] => { results := [.lit (.bool true)], args := [d1, d2] }
  | _ => none }
def fnMapIteratorWalksKeyListInOrderRow : OpenClaim := { program := "yoecww", sum := "aa5ff823ff6523b3abcedb4cb6593d2b0e270a7599546c9e84dabc71790afd6b", func := "github.com/d5/tengo/v2/zzlaws_root_b3.FnMapIteratorWalksKeyListInOrder", spec := "fnMapIteratorWalksKeyListInOrder", apart := false }
def FnMapIteratorWalksKeyListInOrderSaid : Prop := fnMapIteratorWalksKeyListInOrderRow.holds Ecwg.pinned (OpenSpec.ofChange fnMapIteratorWalksKeyListInOrderSpec)

/-- ITS FALSE NEIGHBOUR: 'it returns false'. Refute it at one input. -/
def fnMapIteratorWalksKeyListInOrderWrong : ChangeSpec := { name := "fnMapIteratorWalksKeyListInOrder", fn := fun _ => fun
  | [d1, d2] => { results := [.lit (.bool false)], args := [d1, d2] }
  | _ => none }
def FnMapIteratorWalksKeyListInOrderWrongFalsely : Prop := fnMapIteratorWalksKeyListInOrderRow.holds Ecwg.pinned (OpenSpec.ofChange fnMapIteratorWalksKeyListInOrderWrong)

/-- 'zzlaws_root_b3.FnMapIteratorNextTrueExactlyLenTimes': WHATEVER THE INPUT: true; the input reads as it did. -/
def fnMapIteratorNextTrueExactlyLenTimesSpec : ChangeSpec := { name := "fnMapIteratorNextTrueExactlyLenTimes", fn := fun _ => fun
  | [d1, d2] => { results := [.lit (.bool true)], args := [d1, d2] }
  | _ => none }
def fnMapIteratorNextTrueExactlyLenTimesRow : OpenClaim := { program := "yoecww", sum := "aa5ff823ff6523b3abcedb4cb6593d2b0e270a7599546c9e84dabc71790afd6b", func := "github.com/d5/tengo/v2/zzlaws_root_b3.FnMapIteratorNextTrueExactlyLenTimes", spec := "fnMapIteratorNextTrueExactlyLenTimes", apart := false }
def FnMapIteratorNextTrueExactlyLenTimesSaid : Prop := fnMapIteratorNextTrueExactlyLenTimesRow.holds Ecwg.pinned (OpenSpec.ofChange fnMapIteratorNextTrueExactlyLenTimesSpec)

/-- ITS FALSE NEIGHBOUR: 'it returns false'. Refute it at one input. -/
def fnMapIteratorNextTrueExactlyLenTimesWrong : ChangeSpec := { name := "fnMapIteratorNextTrueExactlyLenTimes", fn := fun _ => fun
  | [d1, d2] => { results := [.lit (.bool false)], args := [d1, d2] }
  | _ => none }
def FnMapIteratorNextTrueExactlyLenTimesWrongFalsely : Prop := fnMapIteratorNextTrueExactlyLenTimesRow.holds Ecwg.pinned (OpenSpec.ofChange fnMapIteratorNextTrueExactlyLenTimesWrong)

/-- 'zzlaws_root_b3.FnMapIteratorKeysFixedValuesLive': WHATEVER THE INPUT: true; the input reads as it did. -/
def fnMapIteratorKeysFixedValuesLiveSpec : ChangeSpec := { name := "fnMapIteratorKeysFixedValuesLive", fn := fun _ => fun
  | [d1, d2] => { results := [.lit (.bool true)], args := [d1, d2] }
  | _ => none }
def fnMapIteratorKeysFixedValuesLiveRow : OpenClaim := { program := "yoecww", sum := "aa5ff823ff6523b3abcedb4cb6593d2b0e270a7599546c9e84dabc71790afd6b", func := "github.com/d5/tengo/v2/zzlaws_root_b3.FnMapIteratorKeysFixedValuesLive", spec := "fnMapIteratorKeysFixedValuesLive", apart := false }
def FnMapIteratorKeysFixedValuesLiveSaid : Prop := fnMapIteratorKeysFixedValuesLiveRow.holds Ecwg.pinned (OpenSpec.ofChange fnMapIteratorKeysFixedValuesLiveSpec)

/-- ITS FALSE NEIGHBOUR: 'it returns false'. Refute it at one input. -/
def fnMapIteratorKeysFixedValuesLiveWrong : ChangeSpec := { name := "fnMapIteratorKeysFixedValuesLive", fn := fun _ => fun
  | [d1, d2] => { results := [.lit (.bool false)], args := [d1, d2] }
  | _ => none }
def FnMapIteratorKeysFixedValuesLiveWrongFalsely : Prop := fnMapIteratorKeysFixedValuesLiveRow.holds Ecwg.pinned (OpenSpec.ofChange fnMapIteratorKeysFixedValuesLiveWrong)

end Rows
end Go.Proofs.Yoecww
