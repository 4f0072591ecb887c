/-
  No cell of these rows narrows 'for every input' (looked for: loops, veiled, ifaces, maps, wideKeys, modest, calm, conditions, laid).
  DERIVED. THE GIVEN ROWS OF THIS SEAT. 2 by the template 'for every input the law returns true; each argument reads behind the call as it read before'; 0 by the template 'total and deterministic' (their statements: Qxb6001785aTotals.lean).
  GIVEN WITH THE SEED: the statements are not yours to turn. If you find one false, say at which input.
  Laid BY PROGRAM, IN A SANDBOX (cutbox-rows.mjs): the forced cells as the released guide's own fill.sh prints them over the translation c3f4f60a3911e409… (all of the seat's roots in one cut). By AI agents, Wed Nov 11 2026. No macro, syntax, notation, axiom, sorry.
-/
import Derived.Test.Qxb6001785aChecked
import GoSem.Claim
import GoSem.ClaimJoined
import GoSem.ClaimMapViews
import Derived.JoinedTies
import Derived.KernelRfl
namespace Go.Proofs.Qxb6001785a
/- THE CELL 'sum', in the pinned program and in every row, IS THE sha256 OF THE DUMP (.gsa) THAT Qxb6001785aProg.lean LOADS. Nothing in Lean hashes anything: it is a label: what it is worth is what the hold of that sum in a sandbox is worth. -/
noncomputable def Try.pinned : Pinned := { name := "qxb6001785a", sum := "c3f4f60a3911e4092c01a741bbdd67f15629e00e86d312345e4063da3f7a40af", checked := Try.checked }
namespace Rows
def none {H : Type} : Left H := { results := [], args := [] }

/-- 'zzlaws_authzen_b1.FnGivenAgreesWithLinearLookup': WHATEVER THE INPUT: true; the input reads as it did. -/
def fnGivenAgreesWithLinearLookupSpec : ChangeSpec := { name := "fnGivenAgreesWithLinearLookup", fn := fun _ => fun
  | [d1, d2, d3, d4] => { results := [.lit (.bool true)], args := [d1, d2, d3, d4] }
  | _ => none }
def fnGivenAgreesWithLinearLookupRow : OpenClaim := { program := "qxb6001785a", sum := "c3f4f60a3911e4092c01a741bbdd67f15629e00e86d312345e4063da3f7a40af", func := "example.com/garm/garm/zzlaws_authzen_b1.FnGivenAgreesWithLinearLookup", spec := "fnGivenAgreesWithLinearLookup", unfollowed := true, recurses := true, apart := false }
def FnGivenAgreesWithLinearLookupSaid : Prop := fnGivenAgreesWithLinearLookupRow.holds Try.pinned (OpenSpec.ofChange fnGivenAgreesWithLinearLookupSpec)

/-- ITS FALSE NEIGHBOUR: 'it returns false'. Refute it at one input. -/
def fnGivenAgreesWithLinearLookupWrong : ChangeSpec := { name := "fnGivenAgreesWithLinearLookup", fn := fun _ => fun
  | [d1, d2, d3, d4] => { results := [.lit (.bool false)], args := [d1, d2, d3, d4] }
  | _ => none }
def FnGivenAgreesWithLinearLookupWrongFalsely : Prop := fnGivenAgreesWithLinearLookupRow.holds Try.pinned (OpenSpec.ofChange fnGivenAgreesWithLinearLookupWrong)

/-- 'zzlaws_authzen_b1.FnGivenRefusesEveryNonObject': WHATEVER THE INPUT: true; the input reads as it did. -/
def fnGivenRefusesEveryNonObjectSpec : ChangeSpec := { name := "fnGivenRefusesEveryNonObject", fn := fun _ => fun
  | [d1, d2, d3, d4] => { results := [.lit (.bool true)], args := [d1, d2, d3, d4] }
  | _ => none }
def fnGivenRefusesEveryNonObjectRow : OpenClaim := { program := "qxb6001785a", sum := "c3f4f60a3911e4092c01a741bbdd67f15629e00e86d312345e4063da3f7a40af", func := "example.com/garm/garm/zzlaws_authzen_b1.FnGivenRefusesEveryNonObject", spec := "fnGivenRefusesEveryNonObject", unfollowed := true, recurses := true, apart := false }
def FnGivenRefusesEveryNonObjectSaid : Prop := fnGivenRefusesEveryNonObjectRow.holds Try.pinned (OpenSpec.ofChange fnGivenRefusesEveryNonObjectSpec)

/-- ITS FALSE NEIGHBOUR: 'it returns false'. Refute it at one input. -/
def fnGivenRefusesEveryNonObjectWrong : ChangeSpec := { name := "fnGivenRefusesEveryNonObject", fn := fun _ => fun
  | [d1, d2, d3, d4] => { results := [.lit (.bool false)], args := [d1, d2, d3, d4] }
  | _ => none }
def FnGivenRefusesEveryNonObjectWrongFalsely : Prop := fnGivenRefusesEveryNonObjectRow.holds Try.pinned (OpenSpec.ofChange fnGivenRefusesEveryNonObjectWrong)

end Rows
end Go.Proofs.Qxb6001785a
