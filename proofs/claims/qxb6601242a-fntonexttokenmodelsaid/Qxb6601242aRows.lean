/-
  No cell of these rows narrows 'for every input' (looked for: loops, veiled, ifaces, maps, wideKeys, modest, calm, conditions, laid).
  DERIVED. THE GIVEN ROWS OF THIS SEAT. 8 by the template 'for every input the law returns true; each argument reads behind the call as it read before'; 0 by the template 'total and deterministic' (their statements: Qxb6601242aTotals.lean).
  GIVEN WITH THE SEED: the statements are not yours to turn. If you find one false, say at which input.
  Laid BY PROGRAM, IN A SANDBOX (cutbox-rows.mjs): the forced cells as the released guide's own fill.sh prints them over the translation 5e3a84633b6c5621… (all of the seat's roots in one cut). By AI agents, Wed Nov 11 2026. No macro, syntax, notation, axiom, sorry.
-/
import Derived.Test.Qxb6601242aChecked
import GoSem.Claim
import GoSem.ClaimJoined
import GoSem.ClaimMapViews
import Derived.JoinedTies
import Derived.KernelRfl
namespace Go.Proofs.Qxb6601242a
/- THE CELL 'sum', in the pinned program and in every row, IS THE sha256 OF THE DUMP (.gsa) THAT Qxb6601242aProg.lean LOADS. Nothing in Lean hashes anything: it is a label: what it is worth is what the hold of that sum in a sandbox is worth. -/
noncomputable def Try.pinned : Pinned := { name := "qxb6601242a", sum := "5e3a84633b6c5621874303c412b976fed83a8dd1fbf3a871aaea1c323d14c0de", checked := Try.checked }
namespace Rows
def none {H : Type} : Left H := { results := [], args := [] }

/-- 'zzlaws_internal_yaml_b1.FnIsFloatTextMatchesAutomaton': WHATEVER THE INPUT: true; the input reads as it did. -/
def fnIsFloatTextMatchesAutomatonSpec : ChangeSpec := { name := "fnIsFloatTextMatchesAutomaton", fn := fun _ => fun
  | [d] => { results := [.lit (.bool true)], args := [d] }
  | _ => none }
def fnIsFloatTextMatchesAutomatonRow : OpenClaim := { program := "qxb6601242a", sum := "5e3a84633b6c5621874303c412b976fed83a8dd1fbf3a871aaea1c323d14c0de", func := "example.com/evenkeel/evenkeel/zzlaws_internal_yaml_b1.FnIsFloatTextMatchesAutomaton", spec := "fnIsFloatTextMatchesAutomaton", unfollowed := true, recurses := true, apart := false }
def FnIsFloatTextMatchesAutomatonSaid : Prop := fnIsFloatTextMatchesAutomatonRow.holds Try.pinned (OpenSpec.ofChange fnIsFloatTextMatchesAutomatonSpec)

/-- ITS FALSE NEIGHBOUR: 'it returns false'. Refute it at one input. -/
def fnIsFloatTextMatchesAutomatonWrong : ChangeSpec := { name := "fnIsFloatTextMatchesAutomaton", fn := fun _ => fun
  | [d] => { results := [.lit (.bool false)], args := [d] }
  | _ => none }
def FnIsFloatTextMatchesAutomatonWrongFalsely : Prop := fnIsFloatTextMatchesAutomatonRow.holds Try.pinned (OpenSpec.ofChange fnIsFloatTextMatchesAutomatonWrong)

/-- 'zzlaws_internal_yaml_b1.FnIsFloatTextSignPrefix': WHATEVER THE INPUT: true; the input reads as it did. -/
def fnIsFloatTextSignPrefixSpec : ChangeSpec := { name := "fnIsFloatTextSignPrefix", fn := fun _ => fun
  | [d] => { results := [.lit (.bool true)], args := [d] }
  | _ => none }
def fnIsFloatTextSignPrefixRow : OpenClaim := { program := "qxb6601242a", sum := "5e3a84633b6c5621874303c412b976fed83a8dd1fbf3a871aaea1c323d14c0de", func := "example.com/evenkeel/evenkeel/zzlaws_internal_yaml_b1.FnIsFloatTextSignPrefix", spec := "fnIsFloatTextSignPrefix", unfollowed := true, recurses := true, apart := false }
def FnIsFloatTextSignPrefixSaid : Prop := fnIsFloatTextSignPrefixRow.holds Try.pinned (OpenSpec.ofChange fnIsFloatTextSignPrefixSpec)

/-- ITS FALSE NEIGHBOUR: 'it returns false'. Refute it at one input. -/
def fnIsFloatTextSignPrefixWrong : ChangeSpec := { name := "fnIsFloatTextSignPrefix", fn := fun _ => fun
  | [d] => { results := [.lit (.bool false)], args := [d] }
  | _ => none }
def FnIsFloatTextSignPrefixWrongFalsely : Prop := fnIsFloatTextSignPrefixRow.holds Try.pinned (OpenSpec.ofChange fnIsFloatTextSignPrefixWrong)

/-- 'zzlaws_internal_yaml_b1.FnIsFloatTextExtends': WHATEVER THE INPUT: true; the input reads as it did. -/
def fnIsFloatTextExtendsSpec : ChangeSpec := { name := "fnIsFloatTextExtends", fn := fun _ => fun
  | [d1, d2] => { results := [.lit (.bool true)], args := [d1, d2] }
  | _ => none }
def fnIsFloatTextExtendsRow : OpenClaim := { program := "qxb6601242a", sum := "5e3a84633b6c5621874303c412b976fed83a8dd1fbf3a871aaea1c323d14c0de", func := "example.com/evenkeel/evenkeel/zzlaws_internal_yaml_b1.FnIsFloatTextExtends", spec := "fnIsFloatTextExtends", unfollowed := true, recurses := true, apart := false }
def FnIsFloatTextExtendsSaid : Prop := fnIsFloatTextExtendsRow.holds Try.pinned (OpenSpec.ofChange fnIsFloatTextExtendsSpec)

/-- ITS FALSE NEIGHBOUR: 'it returns false'. Refute it at one input. -/
def fnIsFloatTextExtendsWrong : ChangeSpec := { name := "fnIsFloatTextExtends", fn := fun _ => fun
  | [d1, d2] => { results := [.lit (.bool false)], args := [d1, d2] }
  | _ => none }
def FnIsFloatTextExtendsWrongFalsely : Prop := fnIsFloatTextExtendsRow.holds Try.pinned (OpenSpec.ofChange fnIsFloatTextExtendsWrong)

/-- 'zzlaws_internal_yaml_b1.FnSkipCommentsModel': WHATEVER THE INPUT: true; the input reads as it did. -/
def fnSkipCommentsModelSpec : ChangeSpec := { name := "fnSkipCommentsModel", fn := fun _ => fun
  | [d1, d2, d3, d4, d5] => { results := [.lit (.bool true)], args := [d1, d2, d3, d4, d5] }
  | _ => none }
def fnSkipCommentsModelRow : OpenClaim := { program := "qxb6601242a", sum := "5e3a84633b6c5621874303c412b976fed83a8dd1fbf3a871aaea1c323d14c0de", func := "example.com/evenkeel/evenkeel/zzlaws_internal_yaml_b1.FnSkipCommentsModel", spec := "fnSkipCommentsModel", inPlace := ["internal/bytealg.IndexByteString"], apart := false }
def FnSkipCommentsModelSaid : Prop := fnSkipCommentsModelRow.holds Try.pinned (OpenSpec.ofChange fnSkipCommentsModelSpec)

/-- ITS FALSE NEIGHBOUR: 'it returns false'. Refute it at one input. -/
def fnSkipCommentsModelWrong : ChangeSpec := { name := "fnSkipCommentsModel", fn := fun _ => fun
  | [d1, d2, d3, d4, d5] => { results := [.lit (.bool false)], args := [d1, d2, d3, d4, d5] }
  | _ => none }
def FnSkipCommentsModelWrongFalsely : Prop := fnSkipCommentsModelRow.holds Try.pinned (OpenSpec.ofChange fnSkipCommentsModelWrong)

/-- 'zzlaws_internal_yaml_b1.FnSkipCommentsIdempotent': WHATEVER THE INPUT: true; the input reads as it did. -/
def fnSkipCommentsIdempotentSpec : ChangeSpec := { name := "fnSkipCommentsIdempotent", fn := fun _ => fun
  | [d1, d2, d3, d4, d5] => { results := [.lit (.bool true)], args := [d1, d2, d3, d4, d5] }
  | _ => none }
def fnSkipCommentsIdempotentRow : OpenClaim := { program := "qxb6601242a", sum := "5e3a84633b6c5621874303c412b976fed83a8dd1fbf3a871aaea1c323d14c0de", func := "example.com/evenkeel/evenkeel/zzlaws_internal_yaml_b1.FnSkipCommentsIdempotent", spec := "fnSkipCommentsIdempotent", inPlace := ["internal/bytealg.IndexByteString"], apart := false }
def FnSkipCommentsIdempotentSaid : Prop := fnSkipCommentsIdempotentRow.holds Try.pinned (OpenSpec.ofChange fnSkipCommentsIdempotentSpec)

/-- ITS FALSE NEIGHBOUR: 'it returns false'. Refute it at one input. -/
def fnSkipCommentsIdempotentWrong : ChangeSpec := { name := "fnSkipCommentsIdempotent", fn := fun _ => fun
  | [d1, d2, d3, d4, d5] => { results := [.lit (.bool false)], args := [d1, d2, d3, d4, d5] }
  | _ => none }
def FnSkipCommentsIdempotentWrongFalsely : Prop := fnSkipCommentsIdempotentRow.holds Try.pinned (OpenSpec.ofChange fnSkipCommentsIdempotentWrong)

/-- 'zzlaws_internal_yaml_b1.FnToNextTokenModel': WHATEVER THE INPUT: true; the input reads as it did. -/
def fnToNextTokenModelSpec : ChangeSpec := { name := "fnToNextTokenModel", fn := fun _ => fun
  | [d1, d2, d3, d4, d5, d6, d7] => { results := [.lit (.bool true)], args := [d1, d2, d3, d4, d5, d6, d7] }
  | _ => none }
def fnToNextTokenModelRow : OpenClaim := { program := "qxb6601242a", sum := "5e3a84633b6c5621874303c412b976fed83a8dd1fbf3a871aaea1c323d14c0de", func := "example.com/evenkeel/evenkeel/zzlaws_internal_yaml_b1.FnToNextTokenModel", spec := "fnToNextTokenModel", inPlace := ["internal/bytealg.IndexByteString"], apart := false }
def FnToNextTokenModelSaid : Prop := fnToNextTokenModelRow.holds Try.pinned (OpenSpec.ofChange fnToNextTokenModelSpec)

/-- ITS FALSE NEIGHBOUR: 'it returns false'. Refute it at one input. -/
def fnToNextTokenModelWrong : ChangeSpec := { name := "fnToNextTokenModel", fn := fun _ => fun
  | [d1, d2, d3, d4, d5, d6, d7] => { results := [.lit (.bool false)], args := [d1, d2, d3, d4, d5, d6, d7] }
  | _ => none }
def FnToNextTokenModelWrongFalsely : Prop := fnToNextTokenModelRow.holds Try.pinned (OpenSpec.ofChange fnToNextTokenModelWrong)

/-- 'zzlaws_internal_yaml_b1.FnToNextTokenIdempotent': WHATEVER THE INPUT: true; the input reads as it did. -/
def fnToNextTokenIdempotentSpec : ChangeSpec := { name := "fnToNextTokenIdempotent", fn := fun _ => fun
  | [d1, d2, d3, d4, d5, d6, d7] => { results := [.lit (.bool true)], args := [d1, d2, d3, d4, d5, d6, d7] }
  | _ => none }
def fnToNextTokenIdempotentRow : OpenClaim := { program := "qxb6601242a", sum := "5e3a84633b6c5621874303c412b976fed83a8dd1fbf3a871aaea1c323d14c0de", func := "example.com/evenkeel/evenkeel/zzlaws_internal_yaml_b1.FnToNextTokenIdempotent", spec := "fnToNextTokenIdempotent", inPlace := ["internal/bytealg.IndexByteString"], apart := false }
def FnToNextTokenIdempotentSaid : Prop := fnToNextTokenIdempotentRow.holds Try.pinned (OpenSpec.ofChange fnToNextTokenIdempotentSpec)

/-- ITS FALSE NEIGHBOUR: 'it returns false'. Refute it at one input. -/
def fnToNextTokenIdempotentWrong : ChangeSpec := { name := "fnToNextTokenIdempotent", fn := fun _ => fun
  | [d1, d2, d3, d4, d5, d6, d7] => { results := [.lit (.bool false)], args := [d1, d2, d3, d4, d5, d6, d7] }
  | _ => none }
def FnToNextTokenIdempotentWrongFalsely : Prop := fnToNextTokenIdempotentRow.holds Try.pinned (OpenSpec.ofChange fnToNextTokenIdempotentWrong)

/-- 'zzlaws_internal_yaml_b1.FnToNextTokenStops': WHATEVER THE INPUT: true; the input reads as it did. -/
def fnToNextTokenStopsSpec : ChangeSpec := { name := "fnToNextTokenStops", fn := fun _ => fun
  | [d1, d2, d3, d4, d5, d6, d7] => { results := [.lit (.bool true)], args := [d1, d2, d3, d4, d5, d6, d7] }
  | _ => none }
def fnToNextTokenStopsRow : OpenClaim := { program := "qxb6601242a", sum := "5e3a84633b6c5621874303c412b976fed83a8dd1fbf3a871aaea1c323d14c0de", func := "example.com/evenkeel/evenkeel/zzlaws_internal_yaml_b1.FnToNextTokenStops", spec := "fnToNextTokenStops", inPlace := ["internal/bytealg.IndexByteString"], apart := false }
def FnToNextTokenStopsSaid : Prop := fnToNextTokenStopsRow.holds Try.pinned (OpenSpec.ofChange fnToNextTokenStopsSpec)

/-- ITS FALSE NEIGHBOUR: 'it returns false'. Refute it at one input. -/
def fnToNextTokenStopsWrong : ChangeSpec := { name := "fnToNextTokenStops", fn := fun _ => fun
  | [d1, d2, d3, d4, d5, d6, d7] => { results := [.lit (.bool false)], args := [d1, d2, d3, d4, d5, d6, d7] }
  | _ => none }
def FnToNextTokenStopsWrongFalsely : Prop := fnToNextTokenStopsRow.holds Try.pinned (OpenSpec.ofChange fnToNextTokenStopsWrong)

end Rows
end Go.Proofs.Qxb6601242a
