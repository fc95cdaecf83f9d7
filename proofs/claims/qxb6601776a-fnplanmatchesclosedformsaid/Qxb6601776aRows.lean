/-
  No cell of these rows narrows 'for every input' (looked for: loops, veiled, ifaces, maps, wideKeys, modest, calm, conditions, laid).
  DERIVED. THE GIVEN ROWS OF THIS SEAT. 5 by the template 'for every input the law returns true; each argument reads behind the call as it read before'; 0 by the template 'total and deterministic' (their statements: Qxb6601776aTotals.lean).
  GIVEN WITH THE SEED: the statements are not yours to turn. If you find one false, say at which input.
  Laid BY PROGRAM, IN A SANDBOX (cutbox-rows.mjs): the forced cells as the released guide's own fill.sh prints them over the translation a7910c5e95ede59b… (all of the seat's roots in one cut). By AI agents, Wed Nov 11 2026. No macro, syntax, notation, axiom, sorry.
-/
import Derived.Test.Qxb6601776aChecked
import GoSem.Claim
import GoSem.ClaimJoined
import GoSem.ClaimMapViews
import Derived.JoinedTies
import Derived.KernelRfl
namespace Go.Proofs.Qxb6601776a
/- THE CELL 'sum', in the pinned program and in every row, IS THE sha256 OF THE DUMP (.gsa) THAT Qxb6601776aProg.lean LOADS. Nothing in Lean hashes anything: it is a label: what it is worth is what the hold of that sum in a sandbox is worth. -/
noncomputable def Try.pinned : Pinned := { name := "qxb6601776a", sum := "a7910c5e95ede59bfcf83abd10d0878183de4fed706d3e8f37f53fd3507bbaef", checked := Try.checked }
namespace Rows
def none {H : Type} : Left H := { results := [], args := [] }

/-- 'zzlaws_internal_fat_b1.FnPlanMatchesClosedForm': WHATEVER THE INPUT: true; the input reads as it did. -/
def fnPlanMatchesClosedFormSpec : ChangeSpec := { name := "fnPlanMatchesClosedForm", fn := fun _ => fun
  | [d1, d2] => { results := [.lit (.bool true)], args := [d1, d2] }
  | _ => none }
def fnPlanMatchesClosedFormRow : OpenClaim := { program := "qxb6601776a", sum := "a7910c5e95ede59bfcf83abd10d0878183de4fed706d3e8f37f53fd3507bbaef", func := "example.com/keelboot/keelboot/zzlaws_internal_fat_b1.FnPlanMatchesClosedForm", spec := "fnPlanMatchesClosedForm", unfollowed := true, recurses := true, apart := false }
def FnPlanMatchesClosedFormSaid : Prop := fnPlanMatchesClosedFormRow.holds Try.pinned (OpenSpec.ofChange fnPlanMatchesClosedFormSpec)

/-- ITS FALSE NEIGHBOUR: 'it returns false'. Refute it at one input. -/
def fnPlanMatchesClosedFormWrong : ChangeSpec := { name := "fnPlanMatchesClosedForm", fn := fun _ => fun
  | [d1, d2] => { results := [.lit (.bool false)], args := [d1, d2] }
  | _ => none }
def FnPlanMatchesClosedFormWrongFalsely : Prop := fnPlanMatchesClosedFormRow.holds Try.pinned (OpenSpec.ofChange fnPlanMatchesClosedFormWrong)

/-- 'zzlaws_internal_fat_b1.FnPlanImageIsWhatItClaims': WHATEVER THE INPUT: true; the input reads as it did. -/
def fnPlanImageIsWhatItClaimsSpec : ChangeSpec := { name := "fnPlanImageIsWhatItClaims", fn := fun _ => fun
  | [d1, d2] => { results := [.lit (.bool true)], args := [d1, d2] }
  | _ => none }
def fnPlanImageIsWhatItClaimsRow : OpenClaim := { program := "qxb6601776a", sum := "a7910c5e95ede59bfcf83abd10d0878183de4fed706d3e8f37f53fd3507bbaef", func := "example.com/keelboot/keelboot/zzlaws_internal_fat_b1.FnPlanImageIsWhatItClaims", spec := "fnPlanImageIsWhatItClaims", unfollowed := true, recurses := true, apart := false }
def FnPlanImageIsWhatItClaimsSaid : Prop := fnPlanImageIsWhatItClaimsRow.holds Try.pinned (OpenSpec.ofChange fnPlanImageIsWhatItClaimsSpec)

/-- ITS FALSE NEIGHBOUR: 'it returns false'. Refute it at one input. -/
def fnPlanImageIsWhatItClaimsWrong : ChangeSpec := { name := "fnPlanImageIsWhatItClaims", fn := fun _ => fun
  | [d1, d2] => { results := [.lit (.bool false)], args := [d1, d2] }
  | _ => none }
def FnPlanImageIsWhatItClaimsWrongFalsely : Prop := fnPlanImageIsWhatItClaimsRow.holds Try.pinned (OpenSpec.ofChange fnPlanImageIsWhatItClaimsWrong)

/-- 'zzlaws_internal_fat_b1.FnPlanDataRegionGrows': WHATEVER THE INPUT: true; the input reads as it did. -/
def fnPlanDataRegionGrowsSpec : ChangeSpec := { name := "fnPlanDataRegionGrows", fn := fun _ => fun
  | [d1, d2, d3, d4] => { results := [.lit (.bool true)], args := [d1, d2, d3, d4] }
  | _ => none }
def fnPlanDataRegionGrowsRow : OpenClaim := { program := "qxb6601776a", sum := "a7910c5e95ede59bfcf83abd10d0878183de4fed706d3e8f37f53fd3507bbaef", func := "example.com/keelboot/keelboot/zzlaws_internal_fat_b1.FnPlanDataRegionGrows", spec := "fnPlanDataRegionGrows", unfollowed := true, recurses := true, apart := false }
def FnPlanDataRegionGrowsSaid : Prop := fnPlanDataRegionGrowsRow.holds Try.pinned (OpenSpec.ofChange fnPlanDataRegionGrowsSpec)

/-- ITS FALSE NEIGHBOUR: 'it returns false'. Refute it at one input. -/
def fnPlanDataRegionGrowsWrong : ChangeSpec := { name := "fnPlanDataRegionGrows", fn := fun _ => fun
  | [d1, d2, d3, d4] => { results := [.lit (.bool false)], args := [d1, d2, d3, d4] }
  | _ => none }
def FnPlanDataRegionGrowsWrongFalsely : Prop := fnPlanDataRegionGrowsRow.holds Try.pinned (OpenSpec.ofChange fnPlanDataRegionGrowsWrong)

/-- 'zzlaws_internal_fat_b1.FnShortNameMatchesAutomaton': WHATEVER THE INPUT: true; the input reads as it did. -/
def fnShortNameMatchesAutomatonSpec : ChangeSpec := { name := "fnShortNameMatchesAutomaton", fn := fun _ => fun
  | [d] => { results := [.lit (.bool true)], args := [d] }
  | _ => none }
def fnShortNameMatchesAutomatonRow : OpenClaim := { program := "qxb6601776a", sum := "a7910c5e95ede59bfcf83abd10d0878183de4fed706d3e8f37f53fd3507bbaef", func := "example.com/keelboot/keelboot/zzlaws_internal_fat_b1.FnShortNameMatchesAutomaton", spec := "fnShortNameMatchesAutomaton", inPlace := ["internal/bytealg.IndexByteString", "internal/bytealg.IndexString"], named := ["internal/bytealg.MaxLen"], apart := false }
def FnShortNameMatchesAutomatonSaid : Prop := fnShortNameMatchesAutomatonRow.holds Try.pinned (OpenSpec.ofChange fnShortNameMatchesAutomatonSpec)

/-- ITS FALSE NEIGHBOUR: 'it returns false'. Refute it at one input. -/
def fnShortNameMatchesAutomatonWrong : ChangeSpec := { name := "fnShortNameMatchesAutomaton", fn := fun _ => fun
  | [d] => { results := [.lit (.bool false)], args := [d] }
  | _ => none }
def FnShortNameMatchesAutomatonWrongFalsely : Prop := fnShortNameMatchesAutomatonRow.holds Try.pinned (OpenSpec.ofChange fnShortNameMatchesAutomatonWrong)

/-- 'zzlaws_internal_fat_b1.FnShortNameSplitsAtTheDot': WHATEVER THE INPUT: true; the input reads as it did. -/
def fnShortNameSplitsAtTheDotSpec : ChangeSpec := { name := "fnShortNameSplitsAtTheDot", fn := fun _ => fun
  | [d1, d2] => { results := [.lit (.bool true)], args := [d1, d2] }
  | _ => none }
def fnShortNameSplitsAtTheDotRow : OpenClaim := { program := "qxb6601776a", sum := "a7910c5e95ede59bfcf83abd10d0878183de4fed706d3e8f37f53fd3507bbaef", func := "example.com/keelboot/keelboot/zzlaws_internal_fat_b1.FnShortNameSplitsAtTheDot", spec := "fnShortNameSplitsAtTheDot", inPlace := ["internal/bytealg.IndexByteString", "internal/bytealg.IndexString"], named := ["internal/bytealg.MaxLen"], apart := false }
def FnShortNameSplitsAtTheDotSaid : Prop := fnShortNameSplitsAtTheDotRow.holds Try.pinned (OpenSpec.ofChange fnShortNameSplitsAtTheDotSpec)

/-- ITS FALSE NEIGHBOUR: 'it returns false'. Refute it at one input. -/
def fnShortNameSplitsAtTheDotWrong : ChangeSpec := { name := "fnShortNameSplitsAtTheDot", fn := fun _ => fun
  | [d1, d2] => { results := [.lit (.bool false)], args := [d1, d2] }
  | _ => none }
def FnShortNameSplitsAtTheDotWrongFalsely : Prop := fnShortNameSplitsAtTheDotRow.holds Try.pinned (OpenSpec.ofChange fnShortNameSplitsAtTheDotWrong)

end Rows
end Go.Proofs.Qxb6601776a
