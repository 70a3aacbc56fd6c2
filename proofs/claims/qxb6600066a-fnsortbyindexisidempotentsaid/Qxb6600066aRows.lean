/-
  No cell of these rows narrows 'for every input' (looked for: loops, veiled, ifaces, maps, wideKeys, modest, calm, conditions, laid).
  DERIVED. THE GIVEN ROWS OF THIS SEAT. 8 by the template 'for every input the law returns true; each argument reads behind the call as it read before'; 0 by the template 'total and deterministic' (their statements: Qxb6600066aTotals.lean).
  GIVEN WITH THE SEED: the statements are not yours to turn. If you find one false, say at which input.
  Laid BY PROGRAM, IN A SANDBOX (cutbox-rows.mjs): the forced cells as the released guide's own fill.sh prints them over the translation 3caaadbe1f975a09… (all of the seat's roots in one cut). By AI agents, Wed Nov 11 2026. No macro, syntax, notation, axiom, sorry.
-/
import Derived.Test.Qxb6600066aChecked
import GoSem.Claim
import GoSem.ClaimJoined
import GoSem.ClaimMapViews
import Derived.JoinedTies
import Derived.KernelRfl
namespace Go.Proofs.Qxb6600066a
/- THE CELL 'sum', in the pinned program and in every row, IS THE sha256 OF THE DUMP (.gsa) THAT Qxb6600066aProg.lean LOADS. Nothing in Lean hashes anything: it is a label: what it is worth is what the hold of that sum in a sandbox is worth. -/
noncomputable def Try.pinned : Pinned := { name := "qxb6600066a", sum := "3caaadbe1f975a09b683ad209bcaf38d2eac34a16a2dbc304b0e9e90f726dfec", checked := Try.checked }
namespace Rows
def none {H : Type} : Left H := { results := [], args := [] }

/-- 'zzlaws_internal_kubeproto_b1.FnCheckNumberAgreesWithJSONAutomaton': WHATEVER THE INPUT: true; the input reads as it did. -/
def fnCheckNumberAgreesWithJSONAutomatonSpec : ChangeSpec := { name := "fnCheckNumberAgreesWithJSONAutomaton", fn := fun _ => fun
  | [d1, d2] => { results := [.lit (.bool true)], args := [d1, d2] }
  | _ => none }
def fnCheckNumberAgreesWithJSONAutomatonRow : OpenClaim := { program := "qxb6600066a", sum := "3caaadbe1f975a09b683ad209bcaf38d2eac34a16a2dbc304b0e9e90f726dfec", func := "example.com/tidewatch/tidewatch/zzlaws_internal_kubeproto_b1.FnCheckNumberAgreesWithJSONAutomaton", spec := "fnCheckNumberAgreesWithJSONAutomaton", apart := false }
def FnCheckNumberAgreesWithJSONAutomatonSaid : Prop := fnCheckNumberAgreesWithJSONAutomatonRow.holds Try.pinned (OpenSpec.ofChange fnCheckNumberAgreesWithJSONAutomatonSpec)

/-- ITS FALSE NEIGHBOUR: 'it returns false'. Refute it at one input. -/
def fnCheckNumberAgreesWithJSONAutomatonWrong : ChangeSpec := { name := "fnCheckNumberAgreesWithJSONAutomaton", fn := fun _ => fun
  | [d1, d2] => { results := [.lit (.bool false)], args := [d1, d2] }
  | _ => none }
def FnCheckNumberAgreesWithJSONAutomatonWrongFalsely : Prop := fnCheckNumberAgreesWithJSONAutomatonRow.holds Try.pinned (OpenSpec.ofChange fnCheckNumberAgreesWithJSONAutomatonWrong)

/-- 'zzlaws_internal_kubeproto_b1.FnCheckNumberIgnoresWhatPrecedesIt': WHATEVER THE INPUT: true; the input reads as it did. -/
def fnCheckNumberIgnoresWhatPrecedesItSpec : ChangeSpec := { name := "fnCheckNumberIgnoresWhatPrecedesIt", fn := fun _ => fun
  | [d1, d2] => { results := [.lit (.bool true)], args := [d1, d2] }
  | _ => none }
def fnCheckNumberIgnoresWhatPrecedesItRow : OpenClaim := { program := "qxb6600066a", sum := "3caaadbe1f975a09b683ad209bcaf38d2eac34a16a2dbc304b0e9e90f726dfec", func := "example.com/tidewatch/tidewatch/zzlaws_internal_kubeproto_b1.FnCheckNumberIgnoresWhatPrecedesIt", spec := "fnCheckNumberIgnoresWhatPrecedesIt", apart := false }
def FnCheckNumberIgnoresWhatPrecedesItSaid : Prop := fnCheckNumberIgnoresWhatPrecedesItRow.holds Try.pinned (OpenSpec.ofChange fnCheckNumberIgnoresWhatPrecedesItSpec)

/-- ITS FALSE NEIGHBOUR: 'it returns false'. Refute it at one input. -/
def fnCheckNumberIgnoresWhatPrecedesItWrong : ChangeSpec := { name := "fnCheckNumberIgnoresWhatPrecedesIt", fn := fun _ => fun
  | [d1, d2] => { results := [.lit (.bool false)], args := [d1, d2] }
  | _ => none }
def FnCheckNumberIgnoresWhatPrecedesItWrongFalsely : Prop := fnCheckNumberIgnoresWhatPrecedesItRow.holds Try.pinned (OpenSpec.ofChange fnCheckNumberIgnoresWhatPrecedesItWrong)

/-- 'zzlaws_internal_kubeproto_b1.FnCheckNumberSpanStandsAlone': WHATEVER THE INPUT: true; the input reads as it did. -/
def fnCheckNumberSpanStandsAloneSpec : ChangeSpec := { name := "fnCheckNumberSpanStandsAlone", fn := fun _ => fun
  | [d1, d2] => { results := [.lit (.bool true)], args := [d1, d2] }
  | _ => none }
def fnCheckNumberSpanStandsAloneRow : OpenClaim := { program := "qxb6600066a", sum := "3caaadbe1f975a09b683ad209bcaf38d2eac34a16a2dbc304b0e9e90f726dfec", func := "example.com/tidewatch/tidewatch/zzlaws_internal_kubeproto_b1.FnCheckNumberSpanStandsAlone", spec := "fnCheckNumberSpanStandsAlone", apart := false }
def FnCheckNumberSpanStandsAloneSaid : Prop := fnCheckNumberSpanStandsAloneRow.holds Try.pinned (OpenSpec.ofChange fnCheckNumberSpanStandsAloneSpec)

/-- ITS FALSE NEIGHBOUR: 'it returns false'. Refute it at one input. -/
def fnCheckNumberSpanStandsAloneWrong : ChangeSpec := { name := "fnCheckNumberSpanStandsAlone", fn := fun _ => fun
  | [d1, d2] => { results := [.lit (.bool false)], args := [d1, d2] }
  | _ => none }
def FnCheckNumberSpanStandsAloneWrongFalsely : Prop := fnCheckNumberSpanStandsAloneRow.holds Try.pinned (OpenSpec.ofChange fnCheckNumberSpanStandsAloneWrong)

/-- 'zzlaws_internal_kubeproto_b1.FnSortByIndexPlacesEachFieldAtItsStableRank': WHATEVER THE INPUT: true; the input reads as it did. -/
def fnSortByIndexPlacesEachFieldAtItsStableRankSpec : ChangeSpec := { name := "fnSortByIndexPlacesEachFieldAtItsStableRank", fn := fun _ => fun
  | [d] => { results := [.lit (.bool true)], args := [d] }
  | _ => none }
def fnSortByIndexPlacesEachFieldAtItsStableRankRow : OpenClaim := { program := "qxb6600066a", sum := "3caaadbe1f975a09b683ad209bcaf38d2eac34a16a2dbc304b0e9e90f726dfec", func := "example.com/tidewatch/tidewatch/zzlaws_internal_kubeproto_b1.FnSortByIndexPlacesEachFieldAtItsStableRank", spec := "fnSortByIndexPlacesEachFieldAtItsStableRank", apart := false }
def FnSortByIndexPlacesEachFieldAtItsStableRankSaid : Prop := fnSortByIndexPlacesEachFieldAtItsStableRankRow.holds Try.pinned (OpenSpec.ofChange fnSortByIndexPlacesEachFieldAtItsStableRankSpec)

/-- ITS FALSE NEIGHBOUR: 'it returns false'. Refute it at one input. -/
def fnSortByIndexPlacesEachFieldAtItsStableRankWrong : ChangeSpec := { name := "fnSortByIndexPlacesEachFieldAtItsStableRank", fn := fun _ => fun
  | [d] => { results := [.lit (.bool false)], args := [d] }
  | _ => none }
def FnSortByIndexPlacesEachFieldAtItsStableRankWrongFalsely : Prop := fnSortByIndexPlacesEachFieldAtItsStableRankRow.holds Try.pinned (OpenSpec.ofChange fnSortByIndexPlacesEachFieldAtItsStableRankWrong)

/-- 'zzlaws_internal_kubeproto_b1.FnSortByIndexIsIdempotent': WHATEVER THE INPUT: true; the input reads as it did. -/
def fnSortByIndexIsIdempotentSpec : ChangeSpec := { name := "fnSortByIndexIsIdempotent", fn := fun _ => fun
  | [d1, d2, d3] => { results := [.lit (.bool true)], args := [d1, d2, d3] }
  | _ => none }
def fnSortByIndexIsIdempotentRow : OpenClaim := { program := "qxb6600066a", sum := "3caaadbe1f975a09b683ad209bcaf38d2eac34a16a2dbc304b0e9e90f726dfec", func := "example.com/tidewatch/tidewatch/zzlaws_internal_kubeproto_b1.FnSortByIndexIsIdempotent", spec := "fnSortByIndexIsIdempotent", apart := false }
def FnSortByIndexIsIdempotentSaid : Prop := fnSortByIndexIsIdempotentRow.holds Try.pinned (OpenSpec.ofChange fnSortByIndexIsIdempotentSpec)

/-- ITS FALSE NEIGHBOUR: 'it returns false'. Refute it at one input. -/
def fnSortByIndexIsIdempotentWrong : ChangeSpec := { name := "fnSortByIndexIsIdempotent", fn := fun _ => fun
  | [d1, d2, d3] => { results := [.lit (.bool false)], args := [d1, d2, d3] }
  | _ => none }
def FnSortByIndexIsIdempotentWrongFalsely : Prop := fnSortByIndexIsIdempotentRow.holds Try.pinned (OpenSpec.ofChange fnSortByIndexIsIdempotentWrong)

/-- 'zzlaws_internal_kubeproto_b1.FnWireTypesHangOnTypeRepeatedAndMapAlone': WHATEVER THE INPUT: true; the input reads as it did. -/
def fnWireTypesHangOnTypeRepeatedAndMapAloneSpec : ChangeSpec := { name := "fnWireTypesHangOnTypeRepeatedAndMapAlone", fn := fun _ => fun
  | [d1, d2, d3, d4, d5] => { results := [.lit (.bool true)], args := [d1, d2, d3, d4, d5] }
  | _ => none }
def fnWireTypesHangOnTypeRepeatedAndMapAloneRow : OpenClaim := { program := "qxb6600066a", sum := "3caaadbe1f975a09b683ad209bcaf38d2eac34a16a2dbc304b0e9e90f726dfec", func := "example.com/tidewatch/tidewatch/zzlaws_internal_kubeproto_b1.FnWireTypesHangOnTypeRepeatedAndMapAlone", spec := "fnWireTypesHangOnTypeRepeatedAndMapAlone", apart := false }
def FnWireTypesHangOnTypeRepeatedAndMapAloneSaid : Prop := fnWireTypesHangOnTypeRepeatedAndMapAloneRow.holds Try.pinned (OpenSpec.ofChange fnWireTypesHangOnTypeRepeatedAndMapAloneSpec)

/-- ITS FALSE NEIGHBOUR: 'it returns false'. Refute it at one input. -/
def fnWireTypesHangOnTypeRepeatedAndMapAloneWrong : ChangeSpec := { name := "fnWireTypesHangOnTypeRepeatedAndMapAlone", fn := fun _ => fun
  | [d1, d2, d3, d4, d5] => { results := [.lit (.bool false)], args := [d1, d2, d3, d4, d5] }
  | _ => none }
def FnWireTypesHangOnTypeRepeatedAndMapAloneWrongFalsely : Prop := fnWireTypesHangOnTypeRepeatedAndMapAloneRow.holds Try.pinned (OpenSpec.ofChange fnWireTypesHangOnTypeRepeatedAndMapAloneWrong)

/-- 'zzlaws_internal_kubeproto_b1.FnWireTypesRepeatingOnlyAddsBytes': WHATEVER THE INPUT: true; the input reads as it did. -/
def fnWireTypesRepeatingOnlyAddsBytesSpec : ChangeSpec := { name := "fnWireTypesRepeatingOnlyAddsBytes", fn := fun _ => fun
  | [d1, d2] => { results := [.lit (.bool true)], args := [d1, d2] }
  | _ => none }
def fnWireTypesRepeatingOnlyAddsBytesRow : OpenClaim := { program := "qxb6600066a", sum := "3caaadbe1f975a09b683ad209bcaf38d2eac34a16a2dbc304b0e9e90f726dfec", func := "example.com/tidewatch/tidewatch/zzlaws_internal_kubeproto_b1.FnWireTypesRepeatingOnlyAddsBytes", spec := "fnWireTypesRepeatingOnlyAddsBytes", apart := false }
def FnWireTypesRepeatingOnlyAddsBytesSaid : Prop := fnWireTypesRepeatingOnlyAddsBytesRow.holds Try.pinned (OpenSpec.ofChange fnWireTypesRepeatingOnlyAddsBytesSpec)

/-- ITS FALSE NEIGHBOUR: 'it returns false'. Refute it at one input. -/
def fnWireTypesRepeatingOnlyAddsBytesWrong : ChangeSpec := { name := "fnWireTypesRepeatingOnlyAddsBytes", fn := fun _ => fun
  | [d1, d2] => { results := [.lit (.bool false)], args := [d1, d2] }
  | _ => none }
def FnWireTypesRepeatingOnlyAddsBytesWrongFalsely : Prop := fnWireTypesRepeatingOnlyAddsBytesRow.holds Try.pinned (OpenSpec.ofChange fnWireTypesRepeatingOnlyAddsBytesWrong)

/-- 'zzlaws_internal_kubeproto_b1.FnWireTypesIsASmallNonEmptySet': WHATEVER THE INPUT: true; the input reads as it did. -/
def fnWireTypesIsASmallNonEmptySetSpec : ChangeSpec := { name := "fnWireTypesIsASmallNonEmptySet", fn := fun _ => fun
  | [d1, d2, d3] => { results := [.lit (.bool true)], args := [d1, d2, d3] }
  | _ => none }
def fnWireTypesIsASmallNonEmptySetRow : OpenClaim := { program := "qxb6600066a", sum := "3caaadbe1f975a09b683ad209bcaf38d2eac34a16a2dbc304b0e9e90f726dfec", func := "example.com/tidewatch/tidewatch/zzlaws_internal_kubeproto_b1.FnWireTypesIsASmallNonEmptySet", spec := "fnWireTypesIsASmallNonEmptySet", apart := false }
def FnWireTypesIsASmallNonEmptySetSaid : Prop := fnWireTypesIsASmallNonEmptySetRow.holds Try.pinned (OpenSpec.ofChange fnWireTypesIsASmallNonEmptySetSpec)

/-- ITS FALSE NEIGHBOUR: 'it returns false'. Refute it at one input. -/
def fnWireTypesIsASmallNonEmptySetWrong : ChangeSpec := { name := "fnWireTypesIsASmallNonEmptySet", fn := fun _ => fun
  | [d1, d2, d3] => { results := [.lit (.bool false)], args := [d1, d2, d3] }
  | _ => none }
def FnWireTypesIsASmallNonEmptySetWrongFalsely : Prop := fnWireTypesIsASmallNonEmptySetRow.holds Try.pinned (OpenSpec.ofChange fnWireTypesIsASmallNonEmptySetWrong)

end Rows
end Go.Proofs.Qxb6600066a
