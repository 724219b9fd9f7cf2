/-
  No cell of these rows narrows 'for every input' (looked for: loops, veiled, ifaces, maps, wideKeys, modest, calm, conditions, laid).
  DERIVED. THE GIVEN ROWS OF THIS SEAT. 4 by the template 'for every input the law returns true; each argument reads behind the call as it read before'; 0 by the template 'total and deterministic' (their statements: Qxb6601748aTotals.lean).
  GIVEN WITH THE SEED: the statements are not yours to turn. If you find one false, say at which input.
  Laid BY PROGRAM, IN A SANDBOX (cutbox-rows.mjs): the forced cells as the released guide's own fill.sh prints them over the translation ff7ae32480e1ce18… (all of the seat's roots in one cut). By AI agents, Wed Nov 11 2026. No macro, syntax, notation, axiom, sorry.
-/
import Derived.Test.Qxb6601748aChecked
import GoSem.Claim
import GoSem.ClaimJoined
import GoSem.ClaimMapViews
import Derived.JoinedTies
import Derived.KernelRfl
namespace Go.Proofs.Qxb6601748a
/- THE CELL 'sum', in the pinned program and in every row, IS THE sha256 OF THE DUMP (.gsa) THAT Qxb6601748aProg.lean LOADS. Nothing in Lean hashes anything: it is a label: what it is worth is what the hold of that sum in a sandbox is worth. -/
noncomputable def Try.pinned : Pinned := { name := "qxb6601748a", sum := "ff7ae32480e1ce18b677e48dc7201375d610e37179d861aba8a53858a2c1d8a1", checked := Try.checked }
namespace Rows
def none {H : Type} : Left H := { results := [], args := [] }

/-- 'zzlaws_remote_b1.FnLookupMostSpecificModel': WHATEVER THE INPUT: true; the input reads as it did. -/
def fnLookupMostSpecificModelSpec : ChangeSpec := { name := "fnLookupMostSpecificModel", fn := fun _ => fun
  | [d1, d2, d3, d4] => { results := [.lit (.bool true)], args := [d1, d2, d3, d4] }
  | _ => none }
def fnLookupMostSpecificModelRow : OpenClaim := { program := "qxb6601748a", sum := "ff7ae32480e1ce18b677e48dc7201375d610e37179d861aba8a53858a2c1d8a1", func := "example.com/refgraph/refgraph/zzlaws_remote_b1.FnLookupMostSpecificModel", spec := "fnLookupMostSpecificModel", apart := false }
def FnLookupMostSpecificModelSaid : Prop := fnLookupMostSpecificModelRow.holds Try.pinned (OpenSpec.ofChange fnLookupMostSpecificModelSpec)

/-- ITS FALSE NEIGHBOUR: 'it returns false'. Refute it at one input. -/
def fnLookupMostSpecificModelWrong : ChangeSpec := { name := "fnLookupMostSpecificModel", fn := fun _ => fun
  | [d1, d2, d3, d4] => { results := [.lit (.bool false)], args := [d1, d2, d3, d4] }
  | _ => none }
def FnLookupMostSpecificModelWrongFalsely : Prop := fnLookupMostSpecificModelRow.holds Try.pinned (OpenSpec.ofChange fnLookupMostSpecificModelWrong)

/-- 'zzlaws_remote_b1.FnLookupDeeperNeverLoses': WHATEVER THE INPUT: true; the input reads as it did. -/
def fnLookupDeeperNeverLosesSpec : ChangeSpec := { name := "fnLookupDeeperNeverLoses", fn := fun _ => fun
  | [d1, d2, d3, d4] => { results := [.lit (.bool true)], args := [d1, d2, d3, d4] }
  | _ => none }
def fnLookupDeeperNeverLosesRow : OpenClaim := { program := "qxb6601748a", sum := "ff7ae32480e1ce18b677e48dc7201375d610e37179d861aba8a53858a2c1d8a1", func := "example.com/refgraph/refgraph/zzlaws_remote_b1.FnLookupDeeperNeverLoses", spec := "fnLookupDeeperNeverLoses", apart := false }
def FnLookupDeeperNeverLosesSaid : Prop := fnLookupDeeperNeverLosesRow.holds Try.pinned (OpenSpec.ofChange fnLookupDeeperNeverLosesSpec)

/-- ITS FALSE NEIGHBOUR: 'it returns false'. Refute it at one input. -/
def fnLookupDeeperNeverLosesWrong : ChangeSpec := { name := "fnLookupDeeperNeverLoses", fn := fun _ => fun
  | [d1, d2, d3, d4] => { results := [.lit (.bool false)], args := [d1, d2, d3, d4] }
  | _ => none }
def FnLookupDeeperNeverLosesWrongFalsely : Prop := fnLookupDeeperNeverLosesRow.holds Try.pinned (OpenSpec.ofChange fnLookupDeeperNeverLosesWrong)

/-- 'zzlaws_remote_b1.FnValueModel': WHATEVER THE INPUT: true; the input reads as it did. -/
def fnValueModelSpec : ChangeSpec := { name := "fnValueModel", fn := fun _ => fun
  | [d1, d2] => { results := [.lit (.bool true)], args := [d1, d2] }
  | _ => none }
def fnValueModelRow : OpenClaim := { program := "qxb6601748a", sum := "ff7ae32480e1ce18b677e48dc7201375d610e37179d861aba8a53858a2c1d8a1", func := "example.com/refgraph/refgraph/zzlaws_remote_b1.FnValueModel", spec := "fnValueModel", inPlace := ["internal/bytealg.IndexByteString", "internal/bytealg.IndexString", "internal/abi.NoEscape"], named := ["internal/bytealg.MaxLen"], apart := false }
def FnValueModelSaid : Prop := fnValueModelRow.holds Try.pinned (OpenSpec.ofChange fnValueModelSpec)

/-- ITS FALSE NEIGHBOUR: 'it returns false'. Refute it at one input. -/
def fnValueModelWrong : ChangeSpec := { name := "fnValueModel", fn := fun _ => fun
  | [d1, d2] => { results := [.lit (.bool false)], args := [d1, d2] }
  | _ => none }
def FnValueModelWrongFalsely : Prop := fnValueModelRow.holds Try.pinned (OpenSpec.ofChange fnValueModelWrong)

/-- 'zzlaws_remote_b1.FnValueQuotedRoundTrip': WHATEVER THE INPUT: true; the input reads as it did. -/
def fnValueQuotedRoundTripSpec : ChangeSpec := { name := "fnValueQuotedRoundTrip", fn := fun _ => fun
  | [d1, d2, d3, d4] => { results := [.lit (.bool true)], args := [d1, d2, d3, d4] }
  | _ => none }
def fnValueQuotedRoundTripRow : OpenClaim := { program := "qxb6601748a", sum := "ff7ae32480e1ce18b677e48dc7201375d610e37179d861aba8a53858a2c1d8a1", func := "example.com/refgraph/refgraph/zzlaws_remote_b1.FnValueQuotedRoundTrip", spec := "fnValueQuotedRoundTrip", inPlace := ["internal/bytealg.IndexByteString", "internal/bytealg.IndexString", "internal/abi.NoEscape"], named := ["internal/bytealg.MaxLen"], apart := false }
def FnValueQuotedRoundTripSaid : Prop := fnValueQuotedRoundTripRow.holds Try.pinned (OpenSpec.ofChange fnValueQuotedRoundTripSpec)

/-- ITS FALSE NEIGHBOUR: 'it returns false'. Refute it at one input. -/
def fnValueQuotedRoundTripWrong : ChangeSpec := { name := "fnValueQuotedRoundTrip", fn := fun _ => fun
  | [d1, d2, d3, d4] => { results := [.lit (.bool false)], args := [d1, d2, d3, d4] }
  | _ => none }
def FnValueQuotedRoundTripWrongFalsely : Prop := fnValueQuotedRoundTripRow.holds Try.pinned (OpenSpec.ofChange fnValueQuotedRoundTripWrong)

end Rows
end Go.Proofs.Qxb6601748a
