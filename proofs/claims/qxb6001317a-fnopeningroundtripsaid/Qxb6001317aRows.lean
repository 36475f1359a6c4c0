/-
  No cell of these rows narrows 'for every input' (looked for: loops, veiled, ifaces, maps, wideKeys, modest, calm, conditions, laid).
  DERIVED. THE GIVEN ROWS OF THIS SEAT. 4 by the template 'for every input the law returns true; each argument reads behind the call as it read before'; 0 by the template 'total and deterministic' (their statements: Qxb6001317aTotals.lean).
  GIVEN WITH THE SEED: the statements are not yours to turn. If you find one false, say at which input.
  Laid BY PROGRAM, IN A SANDBOX (cutbox-rows.mjs): the forced cells as the released guide's own fill.sh prints them over the translation 15e0743a5dd40e8a… (all of the seat's roots in one cut). By AI agents, Wed Nov 11 2026. No macro, syntax, notation, axiom, sorry.
-/
import Derived.Test.Qxb6001317aChecked
import GoSem.Claim
import GoSem.ClaimJoined
import GoSem.ClaimMapViews
import Derived.JoinedTies
import Derived.KernelRfl
namespace Go.Proofs.Qxb6001317a
/- THE CELL 'sum', in the pinned program and in every row, IS THE sha256 OF THE DUMP (.gsa) THAT Qxb6001317aProg.lean LOADS. Nothing in Lean hashes anything: it is a label: what it is worth is what the hold of that sum in a sandbox is worth. -/
noncomputable def Try.pinned : Pinned := { name := "qxb6001317a", sum := "15e0743a5dd40e8a19be2a1be45da5feabffa5a879ef23928ed1ac4d9793ae0f", checked := Try.checked }
namespace Rows
def none {H : Type} : Left H := { results := [], args := [] }

/-- 'zzlaws_automatic_b1.FnOpeningRoundTrip': WHATEVER THE INPUT: true; the input reads as it did. -/
def fnOpeningRoundTripSpec : ChangeSpec := { name := "fnOpeningRoundTrip", fn := fun _ => fun
  | [d1, d2, d3] => { results := [.lit (.bool true)], args := [d1, d2, d3] }
  | _ => none }
def fnOpeningRoundTripRow : OpenClaim := { program := "qxb6001317a", sum := "15e0743a5dd40e8a19be2a1be45da5feabffa5a879ef23928ed1ac4d9793ae0f", func := "example.com/branchline/branchline/zzlaws_automatic_b1.FnOpeningRoundTrip", spec := "fnOpeningRoundTrip", apart := false }
def FnOpeningRoundTripSaid : Prop := fnOpeningRoundTripRow.holds Try.pinned (OpenSpec.ofChange fnOpeningRoundTripSpec)

/-- ITS FALSE NEIGHBOUR: 'it returns false'. Refute it at one input. -/
def fnOpeningRoundTripWrong : ChangeSpec := { name := "fnOpeningRoundTrip", fn := fun _ => fun
  | [d1, d2, d3] => { results := [.lit (.bool false)], args := [d1, d2, d3] }
  | _ => none }
def FnOpeningRoundTripWrongFalsely : Prop := fnOpeningRoundTripRow.holds Try.pinned (OpenSpec.ofChange fnOpeningRoundTripWrong)

/-- 'zzlaws_automatic_b1.FnOpeningReadOnlyWins': WHATEVER THE INPUT: true; the input reads as it did. -/
def fnOpeningReadOnlyWinsSpec : ChangeSpec := { name := "fnOpeningReadOnlyWins", fn := fun _ => fun
  | [d1, d2] => { results := [.lit (.bool true)], args := [d1, d2] }
  | _ => none }
def fnOpeningReadOnlyWinsRow : OpenClaim := { program := "qxb6001317a", sum := "15e0743a5dd40e8a19be2a1be45da5feabffa5a879ef23928ed1ac4d9793ae0f", func := "example.com/branchline/branchline/zzlaws_automatic_b1.FnOpeningReadOnlyWins", spec := "fnOpeningReadOnlyWins", apart := false }
def FnOpeningReadOnlyWinsSaid : Prop := fnOpeningReadOnlyWinsRow.holds Try.pinned (OpenSpec.ofChange fnOpeningReadOnlyWinsSpec)

/-- ITS FALSE NEIGHBOUR: 'it returns false'. Refute it at one input. -/
def fnOpeningReadOnlyWinsWrong : ChangeSpec := { name := "fnOpeningReadOnlyWins", fn := fun _ => fun
  | [d1, d2] => { results := [.lit (.bool false)], args := [d1, d2] }
  | _ => none }
def FnOpeningReadOnlyWinsWrongFalsely : Prop := fnOpeningReadOnlyWinsRow.holds Try.pinned (OpenSpec.ofChange fnOpeningReadOnlyWinsWrong)

/-- 'zzlaws_automatic_b1.FnHeldTypesSplicesTypOnce': WHATEVER THE INPUT: true; the input reads as it did. -/
def fnHeldTypesSplicesTypOnceSpec : ChangeSpec := { name := "fnHeldTypesSplicesTypOnce", fn := fun _ => fun
  | [d] => { results := [.lit (.bool true)], args := [d] }
  | _ => none }
def fnHeldTypesSplicesTypOnceRow : OpenClaim := { program := "qxb6001317a", sum := "15e0743a5dd40e8a19be2a1be45da5feabffa5a879ef23928ed1ac4d9793ae0f", func := "example.com/branchline/branchline/zzlaws_automatic_b1.FnHeldTypesSplicesTypOnce", spec := "fnHeldTypesSplicesTypOnce", apart := false }
def FnHeldTypesSplicesTypOnceSaid : Prop := fnHeldTypesSplicesTypOnceRow.holds Try.pinned (OpenSpec.ofChange fnHeldTypesSplicesTypOnceSpec)

/-- ITS FALSE NEIGHBOUR: 'it returns false'. Refute it at one input. -/
def fnHeldTypesSplicesTypOnceWrong : ChangeSpec := { name := "fnHeldTypesSplicesTypOnce", fn := fun _ => fun
  | [d] => { results := [.lit (.bool false)], args := [d] }
  | _ => none }
def FnHeldTypesSplicesTypOnceWrongFalsely : Prop := fnHeldTypesSplicesTypOnceRow.holds Try.pinned (OpenSpec.ofChange fnHeldTypesSplicesTypOnceWrong)

/-- 'zzlaws_automatic_b1.FnHeldTypesInjective': WHATEVER THE INPUT: true; the input reads as it did. -/
def fnHeldTypesInjectiveSpec : ChangeSpec := { name := "fnHeldTypesInjective", fn := fun _ => fun
  | [d1, d2] => { results := [.lit (.bool true)], args := [d1, d2] }
  | _ => none }
def fnHeldTypesInjectiveRow : OpenClaim := { program := "qxb6001317a", sum := "15e0743a5dd40e8a19be2a1be45da5feabffa5a879ef23928ed1ac4d9793ae0f", func := "example.com/branchline/branchline/zzlaws_automatic_b1.FnHeldTypesInjective", spec := "fnHeldTypesInjective", apart := false }
def FnHeldTypesInjectiveSaid : Prop := fnHeldTypesInjectiveRow.holds Try.pinned (OpenSpec.ofChange fnHeldTypesInjectiveSpec)

/-- ITS FALSE NEIGHBOUR: 'it returns false'. Refute it at one input. -/
def fnHeldTypesInjectiveWrong : ChangeSpec := { name := "fnHeldTypesInjective", fn := fun _ => fun
  | [d1, d2] => { results := [.lit (.bool false)], args := [d1, d2] }
  | _ => none }
def FnHeldTypesInjectiveWrongFalsely : Prop := fnHeldTypesInjectiveRow.holds Try.pinned (OpenSpec.ofChange fnHeldTypesInjectiveWrong)

end Rows
end Go.Proofs.Qxb6001317a
