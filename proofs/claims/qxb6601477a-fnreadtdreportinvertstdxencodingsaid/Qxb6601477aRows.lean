/-
  No cell of these rows narrows 'for every input' (looked for: loops, veiled, ifaces, maps, wideKeys, modest, calm, conditions, laid).
  DERIVED. THE GIVEN ROWS OF THIS SEAT. 8 by the template 'for every input the law returns true; each argument reads behind the call as it read before'; 0 by the template 'total and deterministic' (their statements: Qxb6601477aTotals.lean).
  GIVEN WITH THE SEED: the statements are not yours to turn. If you find one false, say at which input.
  Laid BY PROGRAM, IN A SANDBOX (cutbox-rows.mjs): the forced cells as the released guide's own fill.sh prints them over the translation 87cde9a17805d638… (all of the seat's roots in one cut). By AI agents, Wed Nov 11 2026. No macro, syntax, notation, axiom, sorry.
-/
import Derived.Test.Qxb6601477aChecked
import GoSem.Claim
import GoSem.ClaimJoined
import GoSem.ClaimMapViews
import Derived.JoinedTies
import Derived.KernelRfl
namespace Go.Proofs.Qxb6601477a
/- THE CELL 'sum', in the pinned program and in every row, IS THE sha256 OF THE DUMP (.gsa) THAT Qxb6601477aProg.lean LOADS. Nothing in Lean hashes anything: it is a label: what it is worth is what the hold of that sum in a sandbox is worth. -/
noncomputable def Try.pinned : Pinned := { name := "qxb6601477a", sum := "87cde9a17805d638cd8d44ad69ac4b7de4398a3dd51d0abb547c7b086e70d2cb", checked := Try.checked }
namespace Rows
def none {H : Type} : Left H := { results := [], args := [] }

/-- 'zzlaws_root_b1.FnReadTDReportMatchesTDXLayout': WHATEVER THE INPUT: true; the input reads as it did. -/
def fnReadTDReportMatchesTDXLayoutSpec : ChangeSpec := { name := "fnReadTDReportMatchesTDXLayout", fn := fun _ => fun
  | [d] => { results := [.lit (.bool true)], args := [d] }
  | _ => none }
def fnReadTDReportMatchesTDXLayoutRow : OpenClaim := { program := "qxb6601477a", sum := "87cde9a17805d638cd8d44ad69ac4b7de4398a3dd51d0abb547c7b086e70d2cb", func := "example.com/enclave-attest/enclave-attest/zzlaws_root_b1.FnReadTDReportMatchesTDXLayout", spec := "fnReadTDReportMatchesTDXLayout", apart := false }
def FnReadTDReportMatchesTDXLayoutSaid : Prop := fnReadTDReportMatchesTDXLayoutRow.holds Try.pinned (OpenSpec.ofChange fnReadTDReportMatchesTDXLayoutSpec)

/-- ITS FALSE NEIGHBOUR: 'it returns false'. Refute it at one input. -/
def fnReadTDReportMatchesTDXLayoutWrong : ChangeSpec := { name := "fnReadTDReportMatchesTDXLayout", fn := fun _ => fun
  | [d] => { results := [.lit (.bool false)], args := [d] }
  | _ => none }
def FnReadTDReportMatchesTDXLayoutWrongFalsely : Prop := fnReadTDReportMatchesTDXLayoutRow.holds Try.pinned (OpenSpec.ofChange fnReadTDReportMatchesTDXLayoutWrong)

/-- 'zzlaws_root_b1.FnReadTDReportInvertsTDXEncoding': WHATEVER THE INPUT: true; the input reads as it did. -/
def fnReadTDReportInvertsTDXEncodingSpec : ChangeSpec := { name := "fnReadTDReportInvertsTDXEncoding", fn := fun _ => fun
  | [d1, d2] => { results := [.lit (.bool true)], args := [d1, d2] }
  | _ => none }
def fnReadTDReportInvertsTDXEncodingRow : OpenClaim := { program := "qxb6601477a", sum := "87cde9a17805d638cd8d44ad69ac4b7de4398a3dd51d0abb547c7b086e70d2cb", func := "example.com/enclave-attest/enclave-attest/zzlaws_root_b1.FnReadTDReportInvertsTDXEncoding", spec := "fnReadTDReportInvertsTDXEncoding", apart := false }
def FnReadTDReportInvertsTDXEncodingSaid : Prop := fnReadTDReportInvertsTDXEncodingRow.holds Try.pinned (OpenSpec.ofChange fnReadTDReportInvertsTDXEncodingSpec)

/-- ITS FALSE NEIGHBOUR: 'it returns false'. Refute it at one input. -/
def fnReadTDReportInvertsTDXEncodingWrong : ChangeSpec := { name := "fnReadTDReportInvertsTDXEncoding", fn := fun _ => fun
  | [d1, d2] => { results := [.lit (.bool false)], args := [d1, d2] }
  | _ => none }
def FnReadTDReportInvertsTDXEncodingWrongFalsely : Prop := fnReadTDReportInvertsTDXEncodingRow.holds Try.pinned (OpenSpec.ofChange fnReadTDReportInvertsTDXEncodingWrong)

/-- 'zzlaws_root_b1.FnReachesIffMeetIsWant': WHATEVER THE INPUT: true; the input reads as it did. -/
def fnReachesIffMeetIsWantSpec : ChangeSpec := { name := "fnReachesIffMeetIsWant", fn := fun _ => fun
  | [d1, d2] => { results := [.lit (.bool true)], args := [d1, d2] }
  | _ => none }
def fnReachesIffMeetIsWantRow : OpenClaim := { program := "qxb6601477a", sum := "87cde9a17805d638cd8d44ad69ac4b7de4398a3dd51d0abb547c7b086e70d2cb", func := "example.com/enclave-attest/enclave-attest/zzlaws_root_b1.FnReachesIffMeetIsWant", spec := "fnReachesIffMeetIsWant", apart := false }
def FnReachesIffMeetIsWantSaid : Prop := fnReachesIffMeetIsWantRow.holds Try.pinned (OpenSpec.ofChange fnReachesIffMeetIsWantSpec)

/-- ITS FALSE NEIGHBOUR: 'it returns false'. Refute it at one input. -/
def fnReachesIffMeetIsWantWrong : ChangeSpec := { name := "fnReachesIffMeetIsWant", fn := fun _ => fun
  | [d1, d2] => { results := [.lit (.bool false)], args := [d1, d2] }
  | _ => none }
def FnReachesIffMeetIsWantWrongFalsely : Prop := fnReachesIffMeetIsWantRow.holds Try.pinned (OpenSpec.ofChange fnReachesIffMeetIsWantWrong)

/-- 'zzlaws_root_b1.FnReachesIsPartialOrder': WHATEVER THE INPUT: true; the input reads as it did. -/
def fnReachesIsPartialOrderSpec : ChangeSpec := { name := "fnReachesIsPartialOrder", fn := fun _ => fun
  | [d1, d2, d3] => { results := [.lit (.bool true)], args := [d1, d2, d3] }
  | _ => none }
def fnReachesIsPartialOrderRow : OpenClaim := { program := "qxb6601477a", sum := "87cde9a17805d638cd8d44ad69ac4b7de4398a3dd51d0abb547c7b086e70d2cb", func := "example.com/enclave-attest/enclave-attest/zzlaws_root_b1.FnReachesIsPartialOrder", spec := "fnReachesIsPartialOrder", apart := false }
def FnReachesIsPartialOrderSaid : Prop := fnReachesIsPartialOrderRow.holds Try.pinned (OpenSpec.ofChange fnReachesIsPartialOrderSpec)

/-- ITS FALSE NEIGHBOUR: 'it returns false'. Refute it at one input. -/
def fnReachesIsPartialOrderWrong : ChangeSpec := { name := "fnReachesIsPartialOrder", fn := fun _ => fun
  | [d1, d2, d3] => { results := [.lit (.bool false)], args := [d1, d2, d3] }
  | _ => none }
def FnReachesIsPartialOrderWrongFalsely : Prop := fnReachesIsPartialOrderRow.holds Try.pinned (OpenSpec.ofChange fnReachesIsPartialOrderWrong)

/-- 'zzlaws_root_b1.FnReachesBothIffReachesJoin': WHATEVER THE INPUT: true; the input reads as it did. -/
def fnReachesBothIffReachesJoinSpec : ChangeSpec := { name := "fnReachesBothIffReachesJoin", fn := fun _ => fun
  | [d1, d2, d3] => { results := [.lit (.bool true)], args := [d1, d2, d3] }
  | _ => none }
def fnReachesBothIffReachesJoinRow : OpenClaim := { program := "qxb6601477a", sum := "87cde9a17805d638cd8d44ad69ac4b7de4398a3dd51d0abb547c7b086e70d2cb", func := "example.com/enclave-attest/enclave-attest/zzlaws_root_b1.FnReachesBothIffReachesJoin", spec := "fnReachesBothIffReachesJoin", apart := false }
def FnReachesBothIffReachesJoinSaid : Prop := fnReachesBothIffReachesJoinRow.holds Try.pinned (OpenSpec.ofChange fnReachesBothIffReachesJoinSpec)

/-- ITS FALSE NEIGHBOUR: 'it returns false'. Refute it at one input. -/
def fnReachesBothIffReachesJoinWrong : ChangeSpec := { name := "fnReachesBothIffReachesJoin", fn := fun _ => fun
  | [d1, d2, d3] => { results := [.lit (.bool false)], args := [d1, d2, d3] }
  | _ => none }
def FnReachesBothIffReachesJoinWrongFalsely : Prop := fnReachesBothIffReachesJoinRow.holds Try.pinned (OpenSpec.ofChange fnReachesBothIffReachesJoinWrong)

/-- 'zzlaws_root_b1.FnMaskedEqualMatchesXorAccumulation': WHATEVER THE INPUT: true; the input reads as it did. -/
def fnMaskedEqualMatchesXorAccumulationSpec : ChangeSpec := { name := "fnMaskedEqualMatchesXorAccumulation", fn := fun _ => fun
  | [d1, d2, d3] => { results := [.lit (.bool true)], args := [d1, d2, d3] }
  | _ => none }
def fnMaskedEqualMatchesXorAccumulationRow : OpenClaim := { program := "qxb6601477a", sum := "87cde9a17805d638cd8d44ad69ac4b7de4398a3dd51d0abb547c7b086e70d2cb", func := "example.com/enclave-attest/enclave-attest/zzlaws_root_b1.FnMaskedEqualMatchesXorAccumulation", spec := "fnMaskedEqualMatchesXorAccumulation", apart := false }
def FnMaskedEqualMatchesXorAccumulationSaid : Prop := fnMaskedEqualMatchesXorAccumulationRow.holds Try.pinned (OpenSpec.ofChange fnMaskedEqualMatchesXorAccumulationSpec)

/-- ITS FALSE NEIGHBOUR: 'it returns false'. Refute it at one input. -/
def fnMaskedEqualMatchesXorAccumulationWrong : ChangeSpec := { name := "fnMaskedEqualMatchesXorAccumulation", fn := fun _ => fun
  | [d1, d2, d3] => { results := [.lit (.bool false)], args := [d1, d2, d3] }
  | _ => none }
def FnMaskedEqualMatchesXorAccumulationWrongFalsely : Prop := fnMaskedEqualMatchesXorAccumulationRow.holds Try.pinned (OpenSpec.ofChange fnMaskedEqualMatchesXorAccumulationWrong)

/-- 'zzlaws_root_b1.FnMaskedEqualIsEquivalence': WHATEVER THE INPUT: true; the input reads as it did. -/
def fnMaskedEqualIsEquivalenceSpec : ChangeSpec := { name := "fnMaskedEqualIsEquivalence", fn := fun _ => fun
  | [d1, d2, d3, d4] => { results := [.lit (.bool true)], args := [d1, d2, d3, d4] }
  | _ => none }
def fnMaskedEqualIsEquivalenceRow : OpenClaim := { program := "qxb6601477a", sum := "87cde9a17805d638cd8d44ad69ac4b7de4398a3dd51d0abb547c7b086e70d2cb", func := "example.com/enclave-attest/enclave-attest/zzlaws_root_b1.FnMaskedEqualIsEquivalence", spec := "fnMaskedEqualIsEquivalence", apart := false }
def FnMaskedEqualIsEquivalenceSaid : Prop := fnMaskedEqualIsEquivalenceRow.holds Try.pinned (OpenSpec.ofChange fnMaskedEqualIsEquivalenceSpec)

/-- ITS FALSE NEIGHBOUR: 'it returns false'. Refute it at one input. -/
def fnMaskedEqualIsEquivalenceWrong : ChangeSpec := { name := "fnMaskedEqualIsEquivalence", fn := fun _ => fun
  | [d1, d2, d3, d4] => { results := [.lit (.bool false)], args := [d1, d2, d3, d4] }
  | _ => none }
def FnMaskedEqualIsEquivalenceWrongFalsely : Prop := fnMaskedEqualIsEquivalenceRow.holds Try.pinned (OpenSpec.ofChange fnMaskedEqualIsEquivalenceWrong)

/-- 'zzlaws_root_b1.FnMaskedEqualHoldsUnderNarrowerMask': WHATEVER THE INPUT: true; the input reads as it did. -/
def fnMaskedEqualHoldsUnderNarrowerMaskSpec : ChangeSpec := { name := "fnMaskedEqualHoldsUnderNarrowerMask", fn := fun _ => fun
  | [d1, d2, d3, d4] => { results := [.lit (.bool true)], args := [d1, d2, d3, d4] }
  | _ => none }
def fnMaskedEqualHoldsUnderNarrowerMaskRow : OpenClaim := { program := "qxb6601477a", sum := "87cde9a17805d638cd8d44ad69ac4b7de4398a3dd51d0abb547c7b086e70d2cb", func := "example.com/enclave-attest/enclave-attest/zzlaws_root_b1.FnMaskedEqualHoldsUnderNarrowerMask", spec := "fnMaskedEqualHoldsUnderNarrowerMask", apart := false }
def FnMaskedEqualHoldsUnderNarrowerMaskSaid : Prop := fnMaskedEqualHoldsUnderNarrowerMaskRow.holds Try.pinned (OpenSpec.ofChange fnMaskedEqualHoldsUnderNarrowerMaskSpec)

/-- ITS FALSE NEIGHBOUR: 'it returns false'. Refute it at one input. -/
def fnMaskedEqualHoldsUnderNarrowerMaskWrong : ChangeSpec := { name := "fnMaskedEqualHoldsUnderNarrowerMask", fn := fun _ => fun
  | [d1, d2, d3, d4] => { results := [.lit (.bool false)], args := [d1, d2, d3, d4] }
  | _ => none }
def FnMaskedEqualHoldsUnderNarrowerMaskWrongFalsely : Prop := fnMaskedEqualHoldsUnderNarrowerMaskRow.holds Try.pinned (OpenSpec.ofChange fnMaskedEqualHoldsUnderNarrowerMaskWrong)

end Rows
end Go.Proofs.Qxb6601477a
