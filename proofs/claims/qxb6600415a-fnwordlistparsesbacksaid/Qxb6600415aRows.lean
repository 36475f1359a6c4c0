/-
  No cell of these rows narrows 'for every input' (looked for: loops, veiled, ifaces, maps, wideKeys, modest, calm, conditions, laid).
  DERIVED. THE GIVEN ROWS OF THIS SEAT. 4 by the template 'for every input the law returns true; each argument reads behind the call as it read before'; 0 by the template 'total and deterministic' (their statements: Qxb6600415aTotals.lean).
  GIVEN WITH THE SEED: the statements are not yours to turn. If you find one false, say at which input.
  Laid BY PROGRAM, IN A SANDBOX (cutbox-rows.mjs): the forced cells as the released guide's own fill.sh prints them over the translation 0eff58b709b49be5… (all of the seat's roots in one cut). By AI agents, Wed Nov 11 2026. No macro, syntax, notation, axiom, sorry.
-/
import Derived.Test.Qxb6600415aChecked
import GoSem.Claim
import GoSem.ClaimJoined
import GoSem.ClaimMapViews
import Derived.JoinedTies
import Derived.KernelRfl
namespace Go.Proofs.Qxb6600415a
/- THE CELL 'sum', in the pinned program and in every row, IS THE sha256 OF THE DUMP (.gsa) THAT Qxb6600415aProg.lean LOADS. Nothing in Lean hashes anything: it is a label: what it is worth is what the hold of that sum in a sandbox is worth. -/
noncomputable def Try.pinned : Pinned := { name := "qxb6600415a", sum := "0eff58b709b49be5d7116f24327b1d9d2aacd4a438e4ff952bd87abbd68964f4", checked := Try.checked }
namespace Rows
def none {H : Type} : Left H := { results := [], args := [] }

/-- 'zzlaws_pkg_plan_b1.FnWordListMatchesSeparatorModel': WHATEVER THE INPUT: true; the input reads as it did. -/
def fnWordListMatchesSeparatorModelSpec : ChangeSpec := { name := "fnWordListMatchesSeparatorModel", fn := fun _ => fun
  | [d1, d2] => { results := [.lit (.bool true)], args := [d1, d2] }
  | _ => none }
def fnWordListMatchesSeparatorModelRow : OpenClaim := { program := "qxb6600415a", sum := "0eff58b709b49be5d7116f24327b1d9d2aacd4a438e4ff952bd87abbd68964f4", func := "example.com/vestline/vestline/zzlaws_pkg_plan_b1.FnWordListMatchesSeparatorModel", spec := "fnWordListMatchesSeparatorModel", inPlace := ["internal/abi.NoEscape", "internal/bytealg.MakeNoZero"], apart := false }
def FnWordListMatchesSeparatorModelSaid : Prop := fnWordListMatchesSeparatorModelRow.holds Try.pinned (OpenSpec.ofChange fnWordListMatchesSeparatorModelSpec)

/-- ITS FALSE NEIGHBOUR: 'it returns false'. Refute it at one input. -/
def fnWordListMatchesSeparatorModelWrong : ChangeSpec := { name := "fnWordListMatchesSeparatorModel", fn := fun _ => fun
  | [d1, d2] => { results := [.lit (.bool false)], args := [d1, d2] }
  | _ => none }
def FnWordListMatchesSeparatorModelWrongFalsely : Prop := fnWordListMatchesSeparatorModelRow.holds Try.pinned (OpenSpec.ofChange fnWordListMatchesSeparatorModelWrong)

/-- 'zzlaws_pkg_plan_b1.FnWordListPeelsFirstWord': WHATEVER THE INPUT: true; the input reads as it did. -/
def fnWordListPeelsFirstWordSpec : ChangeSpec := { name := "fnWordListPeelsFirstWord", fn := fun _ => fun
  | [d1, d2] => { results := [.lit (.bool true)], args := [d1, d2] }
  | _ => none }
def fnWordListPeelsFirstWordRow : OpenClaim := { program := "qxb6600415a", sum := "0eff58b709b49be5d7116f24327b1d9d2aacd4a438e4ff952bd87abbd68964f4", func := "example.com/vestline/vestline/zzlaws_pkg_plan_b1.FnWordListPeelsFirstWord", spec := "fnWordListPeelsFirstWord", inPlace := ["internal/abi.NoEscape", "internal/bytealg.MakeNoZero"], apart := false }
def FnWordListPeelsFirstWordSaid : Prop := fnWordListPeelsFirstWordRow.holds Try.pinned (OpenSpec.ofChange fnWordListPeelsFirstWordSpec)

/-- ITS FALSE NEIGHBOUR: 'it returns false'. Refute it at one input. -/
def fnWordListPeelsFirstWordWrong : ChangeSpec := { name := "fnWordListPeelsFirstWord", fn := fun _ => fun
  | [d1, d2] => { results := [.lit (.bool false)], args := [d1, d2] }
  | _ => none }
def FnWordListPeelsFirstWordWrongFalsely : Prop := fnWordListPeelsFirstWordRow.holds Try.pinned (OpenSpec.ofChange fnWordListPeelsFirstWordWrong)

/-- 'zzlaws_pkg_plan_b1.FnWordListParsesBack': WHATEVER THE INPUT: true; the input reads as it did. -/
def fnWordListParsesBackSpec : ChangeSpec := { name := "fnWordListParsesBack", fn := fun _ => fun
  | [d1, d2] => { results := [.lit (.bool true)], args := [d1, d2] }
  | _ => none }
def fnWordListParsesBackRow : OpenClaim := { program := "qxb6600415a", sum := "0eff58b709b49be5d7116f24327b1d9d2aacd4a438e4ff952bd87abbd68964f4", func := "example.com/vestline/vestline/zzlaws_pkg_plan_b1.FnWordListParsesBack", spec := "fnWordListParsesBack", inPlace := ["internal/abi.NoEscape", "internal/bytealg.MakeNoZero"], apart := false }
def FnWordListParsesBackSaid : Prop := fnWordListParsesBackRow.holds Try.pinned (OpenSpec.ofChange fnWordListParsesBackSpec)

/-- ITS FALSE NEIGHBOUR: 'it returns false'. Refute it at one input. -/
def fnWordListParsesBackWrong : ChangeSpec := { name := "fnWordListParsesBack", fn := fun _ => fun
  | [d1, d2] => { results := [.lit (.bool false)], args := [d1, d2] }
  | _ => none }
def FnWordListParsesBackWrongFalsely : Prop := fnWordListParsesBackRow.holds Try.pinned (OpenSpec.ofChange fnWordListParsesBackWrong)

/-- 'zzlaws_pkg_plan_b1.FnTakesMatchesModel': WHATEVER THE INPUT: true; the input reads as it did. -/
def fnTakesMatchesModelSpec : ChangeSpec := { name := "fnTakesMatchesModel", fn := fun _ => fun
  | [d1, d2, d3] => { results := [.lit (.bool true)], args := [d1, d2, d3] }
  | _ => none }
def fnTakesMatchesModelRow : OpenClaim := { program := "qxb6600415a", sum := "0eff58b709b49be5d7116f24327b1d9d2aacd4a438e4ff952bd87abbd68964f4", func := "example.com/vestline/vestline/zzlaws_pkg_plan_b1.FnTakesMatchesModel", spec := "fnTakesMatchesModel", inPlace := ["internal/abi.NoEscape", "internal/bytealg.MakeNoZero"], apart := false }
def FnTakesMatchesModelSaid : Prop := fnTakesMatchesModelRow.holds Try.pinned (OpenSpec.ofChange fnTakesMatchesModelSpec)

/-- ITS FALSE NEIGHBOUR: 'it returns false'. Refute it at one input. -/
def fnTakesMatchesModelWrong : ChangeSpec := { name := "fnTakesMatchesModel", fn := fun _ => fun
  | [d1, d2, d3] => { results := [.lit (.bool false)], args := [d1, d2, d3] }
  | _ => none }
def FnTakesMatchesModelWrongFalsely : Prop := fnTakesMatchesModelRow.holds Try.pinned (OpenSpec.ofChange fnTakesMatchesModelWrong)

end Rows
end Go.Proofs.Qxb6600415a
