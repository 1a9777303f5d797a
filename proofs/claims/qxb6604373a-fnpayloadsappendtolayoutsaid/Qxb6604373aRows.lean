/-
  No cell of these rows narrows 'for every input' (looked for: loops, veiled, ifaces, maps, wideKeys, modest, calm, conditions, laid).
  DERIVED. THE GIVEN ROWS OF THIS SEAT. 7 by the template 'for every input the law returns true; each argument reads behind the call as it read before'; 0 by the template 'total and deterministic' (their statements: Qxb6604373aTotals.lean).
  GIVEN WITH THE SEED: the statements are not yours to turn. If you find one false, say at which input.
  Laid BY PROGRAM, IN A SANDBOX (cutbox-rows.mjs): the forced cells as the released guide's own fill.sh prints them over the translation d27457df4dab511e… (all of the seat's roots in one cut). By AI agents, Wed Nov 11 2026. No macro, syntax, notation, axiom, sorry.
-/
import Derived.Test.Qxb6604373aChecked
import GoSem.Claim
import GoSem.ClaimJoined
import GoSem.ClaimMapViews
import Derived.JoinedTies
import Derived.KernelRfl
namespace Go.Proofs.Qxb6604373a
/- THE CELL 'sum', in the pinned program and in every row, IS THE sha256 OF THE DUMP (.gsa) THAT Qxb6604373aProg.lean LOADS. Nothing in Lean hashes anything: it is a label: what it is worth is what the hold of that sum in a sandbox is worth. -/
noncomputable def Try.pinned : Pinned := { name := "qxb6604373a", sum := "d27457df4dab511ea4519e24f5693c7c86cd7ece56e375bb45608d5d1e4e26d0", checked := Try.checked }
namespace Rows
def none {H : Type} : Left H := { results := [], args := [] }

/-- 'zzlaws_root_b1.FnTakeInAcceptsFirstHelloOnly': WHATEVER THE INPUT: true; the input reads as it did. -/
def fnTakeInAcceptsFirstHelloOnlySpec : ChangeSpec := { name := "fnTakeInAcceptsFirstHelloOnly", fn := fun _ => fun
  | [d1, d2] => { results := [.lit (.bool true)], args := [d1, d2] }
  | _ => none }
def fnTakeInAcceptsFirstHelloOnlyRow : OpenClaim := { program := "qxb6604373a", sum := "d27457df4dab511ea4519e24f5693c7c86cd7ece56e375bb45608d5d1e4e26d0", func := "example.com/batonpass/batonpass/zzlaws_root_b1.FnTakeInAcceptsFirstHelloOnly", spec := "fnTakeInAcceptsFirstHelloOnly", plainKeys := false, apart := false }
def FnTakeInAcceptsFirstHelloOnlySaid : Prop := fnTakeInAcceptsFirstHelloOnlyRow.holds Try.pinned (OpenSpec.ofChange fnTakeInAcceptsFirstHelloOnlySpec)

/-- ITS FALSE NEIGHBOUR: 'it returns false'. Refute it at one input. -/
def fnTakeInAcceptsFirstHelloOnlyWrong : ChangeSpec := { name := "fnTakeInAcceptsFirstHelloOnly", fn := fun _ => fun
  | [d1, d2] => { results := [.lit (.bool false)], args := [d1, d2] }
  | _ => none }
def FnTakeInAcceptsFirstHelloOnlyWrongFalsely : Prop := fnTakeInAcceptsFirstHelloOnlyRow.holds Try.pinned (OpenSpec.ofChange fnTakeInAcceptsFirstHelloOnlyWrong)

/-- 'zzlaws_root_b1.FnTakeInRecordsExactlyTheSeen': WHATEVER THE INPUT: true; the input reads as it did. -/
def fnTakeInRecordsExactlyTheSeenSpec : ChangeSpec := { name := "fnTakeInRecordsExactlyTheSeen", fn := fun _ => fun
  | [d1, d2] => { results := [.lit (.bool true)], args := [d1, d2] }
  | _ => none }
def fnTakeInRecordsExactlyTheSeenRow : OpenClaim := { program := "qxb6604373a", sum := "d27457df4dab511ea4519e24f5693c7c86cd7ece56e375bb45608d5d1e4e26d0", func := "example.com/batonpass/batonpass/zzlaws_root_b1.FnTakeInRecordsExactlyTheSeen", spec := "fnTakeInRecordsExactlyTheSeen", plainKeys := false, apart := false }
def FnTakeInRecordsExactlyTheSeenSaid : Prop := fnTakeInRecordsExactlyTheSeenRow.holds Try.pinned (OpenSpec.ofChange fnTakeInRecordsExactlyTheSeenSpec)

/-- ITS FALSE NEIGHBOUR: 'it returns false'. Refute it at one input. -/
def fnTakeInRecordsExactlyTheSeenWrong : ChangeSpec := { name := "fnTakeInRecordsExactlyTheSeen", fn := fun _ => fun
  | [d1, d2] => { results := [.lit (.bool false)], args := [d1, d2] }
  | _ => none }
def FnTakeInRecordsExactlyTheSeenWrongFalsely : Prop := fnTakeInRecordsExactlyTheSeenRow.holds Try.pinned (OpenSpec.ofChange fnTakeInRecordsExactlyTheSeenWrong)

/-- 'zzlaws_root_b1.FnIntakeAdmitsClosedForm': WHATEVER THE INPUT: true; the input reads as it did. -/
def fnIntakeAdmitsClosedFormSpec : ChangeSpec := { name := "fnIntakeAdmitsClosedForm", fn := fun _ => fun
  | [d1, d2, d3, d4] => { results := [.lit (.bool true)], args := [d1, d2, d3, d4] }
  | _ => none }
def fnIntakeAdmitsClosedFormRow : OpenClaim := { program := "qxb6604373a", sum := "d27457df4dab511ea4519e24f5693c7c86cd7ece56e375bb45608d5d1e4e26d0", func := "example.com/batonpass/batonpass/zzlaws_root_b1.FnIntakeAdmitsClosedForm", spec := "fnIntakeAdmitsClosedForm", plainKeys := false, apart := false }
def FnIntakeAdmitsClosedFormSaid : Prop := fnIntakeAdmitsClosedFormRow.holds Try.pinned (OpenSpec.ofChange fnIntakeAdmitsClosedFormSpec)

/-- ITS FALSE NEIGHBOUR: 'it returns false'. Refute it at one input. -/
def fnIntakeAdmitsClosedFormWrong : ChangeSpec := { name := "fnIntakeAdmitsClosedForm", fn := fun _ => fun
  | [d1, d2, d3, d4] => { results := [.lit (.bool false)], args := [d1, d2, d3, d4] }
  | _ => none }
def FnIntakeAdmitsClosedFormWrongFalsely : Prop := fnIntakeAdmitsClosedFormRow.holds Try.pinned (OpenSpec.ofChange fnIntakeAdmitsClosedFormWrong)

/-- 'zzlaws_root_b1.FnIntakeFullSeparatesLimits': WHATEVER THE INPUT: true; the input reads as it did. -/
def fnIntakeFullSeparatesLimitsSpec : ChangeSpec := { name := "fnIntakeFullSeparatesLimits", fn := fun _ => fun
  | [d1, d2] => { results := [.lit (.bool true)], args := [d1, d2] }
  | _ => none }
def fnIntakeFullSeparatesLimitsRow : OpenClaim := { program := "qxb6604373a", sum := "d27457df4dab511ea4519e24f5693c7c86cd7ece56e375bb45608d5d1e4e26d0", func := "example.com/batonpass/batonpass/zzlaws_root_b1.FnIntakeFullSeparatesLimits", spec := "fnIntakeFullSeparatesLimits", plainKeys := false, apart := false }
def FnIntakeFullSeparatesLimitsSaid : Prop := fnIntakeFullSeparatesLimitsRow.holds Try.pinned (OpenSpec.ofChange fnIntakeFullSeparatesLimitsSpec)

/-- ITS FALSE NEIGHBOUR: 'it returns false'. Refute it at one input. -/
def fnIntakeFullSeparatesLimitsWrong : ChangeSpec := { name := "fnIntakeFullSeparatesLimits", fn := fun _ => fun
  | [d1, d2] => { results := [.lit (.bool false)], args := [d1, d2] }
  | _ => none }
def FnIntakeFullSeparatesLimitsWrongFalsely : Prop := fnIntakeFullSeparatesLimitsRow.holds Try.pinned (OpenSpec.ofChange fnIntakeFullSeparatesLimitsWrong)

/-- 'zzlaws_root_b1.FnPayloadAppendToRoundTrip': WHATEVER THE INPUT: true; the input reads as it did. -/
def fnPayloadAppendToRoundTripSpec : ChangeSpec := { name := "fnPayloadAppendToRoundTrip", fn := fun _ => fun
  | [d1, d2, d3, d4] => { results := [.lit (.bool true)], args := [d1, d2, d3, d4] }
  | _ => none }
def fnPayloadAppendToRoundTripRow : OpenClaim := { program := "qxb6604373a", sum := "d27457df4dab511ea4519e24f5693c7c86cd7ece56e375bb45608d5d1e4e26d0", func := "example.com/batonpass/batonpass/zzlaws_root_b1.FnPayloadAppendToRoundTrip", spec := "fnPayloadAppendToRoundTrip", plainKeys := false, apart := false }
def FnPayloadAppendToRoundTripSaid : Prop := fnPayloadAppendToRoundTripRow.holds Try.pinned (OpenSpec.ofChange fnPayloadAppendToRoundTripSpec)

/-- ITS FALSE NEIGHBOUR: 'it returns false'. Refute it at one input. -/
def fnPayloadAppendToRoundTripWrong : ChangeSpec := { name := "fnPayloadAppendToRoundTrip", fn := fun _ => fun
  | [d1, d2, d3, d4] => { results := [.lit (.bool false)], args := [d1, d2, d3, d4] }
  | _ => none }
def FnPayloadAppendToRoundTripWrongFalsely : Prop := fnPayloadAppendToRoundTripRow.holds Try.pinned (OpenSpec.ofChange fnPayloadAppendToRoundTripWrong)

/-- 'zzlaws_root_b1.FnPayloadsAppendToRoundTrip': WHATEVER THE INPUT: true; the input reads as it did. -/
def fnPayloadsAppendToRoundTripSpec : ChangeSpec := { name := "fnPayloadsAppendToRoundTrip", fn := fun _ => fun
  | [d1, d2, d3, d4] => { results := [.lit (.bool true)], args := [d1, d2, d3, d4] }
  | _ => none }
def fnPayloadsAppendToRoundTripRow : OpenClaim := { program := "qxb6604373a", sum := "d27457df4dab511ea4519e24f5693c7c86cd7ece56e375bb45608d5d1e4e26d0", func := "example.com/batonpass/batonpass/zzlaws_root_b1.FnPayloadsAppendToRoundTrip", spec := "fnPayloadsAppendToRoundTrip", plainKeys := false, apart := false }
def FnPayloadsAppendToRoundTripSaid : Prop := fnPayloadsAppendToRoundTripRow.holds Try.pinned (OpenSpec.ofChange fnPayloadsAppendToRoundTripSpec)

/-- ITS FALSE NEIGHBOUR: 'it returns false'. Refute it at one input. -/
def fnPayloadsAppendToRoundTripWrong : ChangeSpec := { name := "fnPayloadsAppendToRoundTrip", fn := fun _ => fun
  | [d1, d2, d3, d4] => { results := [.lit (.bool false)], args := [d1, d2, d3, d4] }
  | _ => none }
def FnPayloadsAppendToRoundTripWrongFalsely : Prop := fnPayloadsAppendToRoundTripRow.holds Try.pinned (OpenSpec.ofChange fnPayloadsAppendToRoundTripWrong)

/-- 'zzlaws_root_b1.FnPayloadsAppendToLayout': WHATEVER THE INPUT: true; the input reads as it did. -/
def fnPayloadsAppendToLayoutSpec : ChangeSpec := { name := "fnPayloadsAppendToLayout", fn := fun _ => fun
  | [d1, d2, d3, d4] => { results := [.lit (.bool true)], args := [d1, d2, d3, d4] }
  | _ => none }
def fnPayloadsAppendToLayoutRow : OpenClaim := { program := "qxb6604373a", sum := "d27457df4dab511ea4519e24f5693c7c86cd7ece56e375bb45608d5d1e4e26d0", func := "example.com/batonpass/batonpass/zzlaws_root_b1.FnPayloadsAppendToLayout", spec := "fnPayloadsAppendToLayout", plainKeys := false, apart := false }
def FnPayloadsAppendToLayoutSaid : Prop := fnPayloadsAppendToLayoutRow.holds Try.pinned (OpenSpec.ofChange fnPayloadsAppendToLayoutSpec)

/-- ITS FALSE NEIGHBOUR: 'it returns false'. Refute it at one input. -/
def fnPayloadsAppendToLayoutWrong : ChangeSpec := { name := "fnPayloadsAppendToLayout", fn := fun _ => fun
  | [d1, d2, d3, d4] => { results := [.lit (.bool false)], args := [d1, d2, d3, d4] }
  | _ => none }
def FnPayloadsAppendToLayoutWrongFalsely : Prop := fnPayloadsAppendToLayoutRow.holds Try.pinned (OpenSpec.ofChange fnPayloadsAppendToLayoutWrong)

end Rows
end Go.Proofs.Qxb6604373a
