/-
  No cell of these rows narrows 'for every input' (looked for: loops, veiled, ifaces, maps, wideKeys, modest, calm, conditions, laid).
  DERIVED. THE GIVEN ROWS OF THIS SEAT. 5 by the template 'for every input the law returns true; each argument reads behind the call as it read before'; 0 by the template 'total and deterministic' (their statements: YoechwTotals.lean).
  GIVEN WITH THE SEED: the statements are not yours to turn. If you find one false, say at which input.
  Laid BY PROGRAM, IN A SANDBOX (cutbox-rows.mjs): the forced cells as the released guide's own fill.sh prints them over the translation 7729d7305c284176… (all of the seat's roots in one cut). By AI agents, Wed Nov 11 2026. No macro, syntax, notation, axiom, sorry.
-/
import Derived.Test.YoechwChecked
import GoSem.Claim
import GoSem.ClaimJoined
import GoSem.ClaimMapViews
import Derived.JoinedTies
import Derived.KernelRfl
namespace Go.Proofs.Yoechw
/- THE CELL 'sum', in the pinned program and in every row, IS THE sha256 OF THE DUMP (.gsa) THAT YoechwProg.lean LOADS. Nothing in Lean hashes anything: it is a label: what it is worth is what the hold of that sum in a sandbox is worth. -/
noncomputable def Echg.pinned : Pinned := { name := "yoechw", sum := "7729d7305c2841764ddaecd35249c6eb4795a388f9ad3aa4ff0a379ad79e435c", checked := Echg.checked }
namespace Rows
def none {H : Type} : Left H := { results := [], args := [] }

/-- 'zzlaws_root_b3.FnBoolCopyIsTheSameBool': WHATEVER THE INPUT: true; the input reads as it did. -/
def fnBoolCopyIsTheSameBoolSpec : ChangeSpec := { name := "fnBoolCopyIsTheSameBool", fn := fun _ => fun
  | [d] => { results := [.lit (.bool true)], args := [d] }
  | _ => none }
def fnBoolCopyIsTheSameBoolRow : OpenClaim := { program := "yoechw", sum := "7729d7305c2841764ddaecd35249c6eb4795a388f9ad3aa4ff0a379ad79e435c", func := "github.com/d5/tengo/v2/zzlaws_root_b3.FnBoolCopyIsTheSameBool", spec := "fnBoolCopyIsTheSameBool", apart := false }
def FnBoolCopyIsTheSameBoolSaid : Prop := fnBoolCopyIsTheSameBoolRow.holds Echg.pinned (OpenSpec.ofChange fnBoolCopyIsTheSameBoolSpec)

/-- ITS FALSE NEIGHBOUR: 'it returns false'. Refute it at one input. -/
def fnBoolCopyIsTheSameBoolWrong : ChangeSpec := { name := "fnBoolCopyIsTheSameBool", fn := fun _ => fun
  | [d] => { results := [.lit (.bool false)], args := [d] }
  | _ => none }
def FnBoolCopyIsTheSameBoolWrongFalsely : Prop := fnBoolCopyIsTheSameBoolRow.holds Echg.pinned (OpenSpec.ofChange fnBoolCopyIsTheSameBoolWrong)

/-- 'zzlaws_root_b3.FnArrayIterateYieldsEachElementInOrder': WHATEVER THE INPUT: true; the input reads as it did. -/
def fnArrayIterateYieldsEachElementInOrderSpec : ChangeSpec := { name := "fnArrayIterateYieldsEachElementInOrder", fn := fun _ => fun
  | [d] => { results := [.lit (.bool true)], args := [d] }
  | _ => none }
def fnArrayIterateYieldsEachElementInOrderRow : OpenClaim := { program := "yoechw", sum := "7729d7305c2841764ddaecd35249c6eb4795a388f9ad3aa4ff0a379ad79e435c", func := "github.com/d5/tengo/v2/zzlaws_root_b3.FnArrayIterateYieldsEachElementInOrder", spec := "fnArrayIterateYieldsEachElementInOrder", apart := false }
def FnArrayIterateYieldsEachElementInOrderSaid : Prop := fnArrayIterateYieldsEachElementInOrderRow.holds Echg.pinned (OpenSpec.ofChange fnArrayIterateYieldsEachElementInOrderSpec)

/-- ITS FALSE NEIGHBOUR: 'it returns false'. Refute it at one input. -/
def fnArrayIterateYieldsEachElementInOrderWrong : ChangeSpec := { name := "fnArrayIterateYieldsEachElementInOrder", fn := fun _ => fun
  | [d] => { results := [.lit (.bool false)], args := [d] }
  | _ => none }
def FnArrayIterateYieldsEachElementInOrderWrongFalsely : Prop := fnArrayIterateYieldsEachElementInOrderRow.holds Echg.pinned (OpenSpec.ofChange fnArrayIterateYieldsEachElementInOrderWrong)

/-- 'zzlaws_root_b3.FnArrayIterateSnapshotsLengthButSeesElementWrites': WHATEVER THE INPUT: true; the input reads as it did. -/
def fnArrayIterateSnapshotsLengthButSeesElementWritesSpec : ChangeSpec := { name := "fnArrayIterateSnapshotsLengthButSeesElementWrites", fn := fun _ => fun
  | [d1, d2, d3, d4] => { results := [.lit (.bool true)], args := [d1, d2, d3, d4] }
  | _ => none }
def fnArrayIterateSnapshotsLengthButSeesElementWritesRow : OpenClaim := { program := "yoechw", sum := "7729d7305c2841764ddaecd35249c6eb4795a388f9ad3aa4ff0a379ad79e435c", func := "github.com/d5/tengo/v2/zzlaws_root_b3.FnArrayIterateSnapshotsLengthButSeesElementWrites", spec := "fnArrayIterateSnapshotsLengthButSeesElementWrites", apart := false }
def FnArrayIterateSnapshotsLengthButSeesElementWritesSaid : Prop := fnArrayIterateSnapshotsLengthButSeesElementWritesRow.holds Echg.pinned (OpenSpec.ofChange fnArrayIterateSnapshotsLengthButSeesElementWritesSpec)

/-- ITS FALSE NEIGHBOUR: 'it returns false'. Refute it at one input. -/
def fnArrayIterateSnapshotsLengthButSeesElementWritesWrong : ChangeSpec := { name := "fnArrayIterateSnapshotsLengthButSeesElementWrites", fn := fun _ => fun
  | [d1, d2, d3, d4] => { results := [.lit (.bool false)], args := [d1, d2, d3, d4] }
  | _ => none }
def FnArrayIterateSnapshotsLengthButSeesElementWritesWrongFalsely : Prop := fnArrayIterateSnapshotsLengthButSeesElementWritesRow.holds Echg.pinned (OpenSpec.ofChange fnArrayIterateSnapshotsLengthButSeesElementWritesWrong)

/-- 'zzlaws_root_b3.FnArrayCanIterateAgreesWithIterate': WHATEVER THE INPUT: true; the input reads as it did. -/
def fnArrayCanIterateAgreesWithIterateSpec : ChangeSpec := { name := "fnArrayCanIterateAgreesWithIterate", fn := fun _ => fun
  | [d] => { results := [.lit (.bool true)], args := [d] }
  | _ => none }
def fnArrayCanIterateAgreesWithIterateRow : OpenClaim := { program := "yoechw", sum := "7729d7305c2841764ddaecd35249c6eb4795a388f9ad3aa4ff0a379ad79e435c", func := "github.com/d5/tengo/v2/zzlaws_root_b3.FnArrayCanIterateAgreesWithIterate", spec := "fnArrayCanIterateAgreesWithIterate", apart := false }
def FnArrayCanIterateAgreesWithIterateSaid : Prop := fnArrayCanIterateAgreesWithIterateRow.holds Echg.pinned (OpenSpec.ofChange fnArrayCanIterateAgreesWithIterateSpec)

/-- ITS FALSE NEIGHBOUR: 'it returns false'. Refute it at one input. -/
def fnArrayCanIterateAgreesWithIterateWrong : ChangeSpec := { name := "fnArrayCanIterateAgreesWithIterate", fn := fun _ => fun
  | [d] => { results := [.lit (.bool false)], args := [d] }
  | _ => none }
def FnArrayCanIterateAgreesWithIterateWrongFalsely : Prop := fnArrayCanIterateAgreesWithIterateRow.holds Echg.pinned (OpenSpec.ofChange fnArrayCanIterateAgreesWithIterateWrong)

/-- 'zzlaws_root_b3.FnBoolCopyIdempotentAndGobRoundTrips': WHATEVER THE INPUT: true; the input reads as it did. -/
def fnBoolCopyIdempotentAndGobRoundTripsSpec : ChangeSpec := { name := "fnBoolCopyIdempotentAndGobRoundTrips", fn := fun _ => fun
  | [d] => { results := [.lit (.bool true)], args := [d] }
  | _ => none }
def fnBoolCopyIdempotentAndGobRoundTripsRow : OpenClaim := { program := "yoechw", sum := "7729d7305c2841764ddaecd35249c6eb4795a388f9ad3aa4ff0a379ad79e435c", func := "github.com/d5/tengo/v2/zzlaws_root_b3.FnBoolCopyIdempotentAndGobRoundTrips", spec := "fnBoolCopyIdempotentAndGobRoundTrips", apart := false }
def FnBoolCopyIdempotentAndGobRoundTripsSaid : Prop := fnBoolCopyIdempotentAndGobRoundTripsRow.holds Echg.pinned (OpenSpec.ofChange fnBoolCopyIdempotentAndGobRoundTripsSpec)

/-- ITS FALSE NEIGHBOUR: 'it returns false'. Refute it at one input. -/
def fnBoolCopyIdempotentAndGobRoundTripsWrong : ChangeSpec := { name := "fnBoolCopyIdempotentAndGobRoundTrips", fn := fun _ => fun
  | [d] => { results := [.lit (.bool false)], args := [d] }
  | _ => none }
def FnBoolCopyIdempotentAndGobRoundTripsWrongFalsely : Prop := fnBoolCopyIdempotentAndGobRoundTripsRow.holds Echg.pinned (OpenSpec.ofChange fnBoolCopyIdempotentAndGobRoundTripsWrong)

end Rows
end Go.Proofs.Yoechw
