/-
  No cell of these rows narrows 'for every input' (looked for: loops, veiled, ifaces, maps, wideKeys, modest, calm, conditions, laid).
  DERIVED. THE GIVEN ROWS OF THIS SEAT. 4 by the template 'for every input the law returns true; each argument reads behind the call as it read before'; 0 by the template 'total and deterministic' (their statements: Qxb6001738aTotals.lean).
  GIVEN WITH THE SEED: the statements are not yours to turn. If you find one false, say at which input.
  Laid BY PROGRAM, IN A SANDBOX (cutbox-rows.mjs): the forced cells as the released guide's own fill.sh prints them over the translation c6f229d563f48838… (all of the seat's roots in one cut). By AI agents, Wed Nov 11 2026. No macro, syntax, notation, axiom, sorry.
-/
import Derived.Test.Qxb6001738aChecked
import GoSem.Claim
import GoSem.ClaimJoined
import GoSem.ClaimMapViews
import Derived.JoinedTies
import Derived.KernelRfl
namespace Go.Proofs.Qxb6001738a
/- THE CELL 'sum', in the pinned program and in every row, IS THE sha256 OF THE DUMP (.gsa) THAT Qxb6001738aProg.lean LOADS. Nothing in Lean hashes anything: it is a label: what it is worth is what the hold of that sum in a sandbox is worth. -/
noncomputable def Try.pinned : Pinned := { name := "qxb6001738a", sum := "c6f229d563f488387f7081421996b2e3d61fe7a192caf58f00d1eab72ef47067", checked := Try.checked }
namespace Rows
def none {H : Type} : Left H := { results := [], args := [] }

/-- 'zzlaws_root_b1.FnSkipSpaceStripsExactlyLeadingSpace': WHATEVER THE INPUT: true; the input reads as it did. -/
def fnSkipSpaceStripsExactlyLeadingSpaceSpec : ChangeSpec := { name := "fnSkipSpaceStripsExactlyLeadingSpace", fn := fun _ => fun
  | [d] => { results := [.lit (.bool true)], args := [d] }
  | _ => none }
def fnSkipSpaceStripsExactlyLeadingSpaceRow : OpenClaim := { program := "qxb6001738a", sum := "c6f229d563f488387f7081421996b2e3d61fe7a192caf58f00d1eab72ef47067", func := "example.com/beforehand/beforehand/zzlaws_root_b1.FnSkipSpaceStripsExactlyLeadingSpace", spec := "fnSkipSpaceStripsExactlyLeadingSpace", apart := false }
def FnSkipSpaceStripsExactlyLeadingSpaceSaid : Prop := fnSkipSpaceStripsExactlyLeadingSpaceRow.holds Try.pinned (OpenSpec.ofChange fnSkipSpaceStripsExactlyLeadingSpaceSpec)

/-- ITS FALSE NEIGHBOUR: 'it returns false'. Refute it at one input. -/
def fnSkipSpaceStripsExactlyLeadingSpaceWrong : ChangeSpec := { name := "fnSkipSpaceStripsExactlyLeadingSpace", fn := fun _ => fun
  | [d] => { results := [.lit (.bool false)], args := [d] }
  | _ => none }
def FnSkipSpaceStripsExactlyLeadingSpaceWrongFalsely : Prop := fnSkipSpaceStripsExactlyLeadingSpaceRow.holds Try.pinned (OpenSpec.ofChange fnSkipSpaceStripsExactlyLeadingSpaceWrong)

/-- 'zzlaws_root_b1.FnSkipSpaceIdempotent': WHATEVER THE INPUT: true; the input reads as it did. -/
def fnSkipSpaceIdempotentSpec : ChangeSpec := { name := "fnSkipSpaceIdempotent", fn := fun _ => fun
  | [d] => { results := [.lit (.bool true)], args := [d] }
  | _ => none }
def fnSkipSpaceIdempotentRow : OpenClaim := { program := "qxb6001738a", sum := "c6f229d563f488387f7081421996b2e3d61fe7a192caf58f00d1eab72ef47067", func := "example.com/beforehand/beforehand/zzlaws_root_b1.FnSkipSpaceIdempotent", spec := "fnSkipSpaceIdempotent", apart := false }
def FnSkipSpaceIdempotentSaid : Prop := fnSkipSpaceIdempotentRow.holds Try.pinned (OpenSpec.ofChange fnSkipSpaceIdempotentSpec)

/-- ITS FALSE NEIGHBOUR: 'it returns false'. Refute it at one input. -/
def fnSkipSpaceIdempotentWrong : ChangeSpec := { name := "fnSkipSpaceIdempotent", fn := fun _ => fun
  | [d] => { results := [.lit (.bool false)], args := [d] }
  | _ => none }
def FnSkipSpaceIdempotentWrongFalsely : Prop := fnSkipSpaceIdempotentRow.holds Try.pinned (OpenSpec.ofChange fnSkipSpaceIdempotentWrong)

/-- 'zzlaws_root_b1.FnSkipSpaceIgnoresSpacePrefix': WHATEVER THE INPUT: true; the input reads as it did. -/
def fnSkipSpaceIgnoresSpacePrefixSpec : ChangeSpec := { name := "fnSkipSpaceIgnoresSpacePrefix", fn := fun _ => fun
  | [d1, d2] => { results := [.lit (.bool true)], args := [d1, d2] }
  | _ => none }
def fnSkipSpaceIgnoresSpacePrefixRow : OpenClaim := { program := "qxb6001738a", sum := "c6f229d563f488387f7081421996b2e3d61fe7a192caf58f00d1eab72ef47067", func := "example.com/beforehand/beforehand/zzlaws_root_b1.FnSkipSpaceIgnoresSpacePrefix", spec := "fnSkipSpaceIgnoresSpacePrefix", apart := false }
def FnSkipSpaceIgnoresSpacePrefixSaid : Prop := fnSkipSpaceIgnoresSpacePrefixRow.holds Try.pinned (OpenSpec.ofChange fnSkipSpaceIgnoresSpacePrefixSpec)

/-- ITS FALSE NEIGHBOUR: 'it returns false'. Refute it at one input. -/
def fnSkipSpaceIgnoresSpacePrefixWrong : ChangeSpec := { name := "fnSkipSpaceIgnoresSpacePrefix", fn := fun _ => fun
  | [d1, d2] => { results := [.lit (.bool false)], args := [d1, d2] }
  | _ => none }
def FnSkipSpaceIgnoresSpacePrefixWrongFalsely : Prop := fnSkipSpaceIgnoresSpacePrefixRow.holds Try.pinned (OpenSpec.ofChange fnSkipSpaceIgnoresSpacePrefixWrong)

/-- 'zzlaws_root_b1.FnTallyAddMatchesCounts': WHATEVER THE INPUT: true; the input reads as it did. -/
def fnTallyAddMatchesCountsSpec : ChangeSpec := { name := "fnTallyAddMatchesCounts", fn := fun _ => fun
  | [d1, d2] => { results := [.lit (.bool true)], args := [d1, d2] }
  | _ => none }
def fnTallyAddMatchesCountsRow : OpenClaim := { program := "qxb6001738a", sum := "c6f229d563f488387f7081421996b2e3d61fe7a192caf58f00d1eab72ef47067", func := "example.com/beforehand/beforehand/zzlaws_root_b1.FnTallyAddMatchesCounts", spec := "fnTallyAddMatchesCounts", apart := false }
def FnTallyAddMatchesCountsSaid : Prop := fnTallyAddMatchesCountsRow.holds Try.pinned (OpenSpec.ofChange fnTallyAddMatchesCountsSpec)

/-- ITS FALSE NEIGHBOUR: 'it returns false'. Refute it at one input. -/
def fnTallyAddMatchesCountsWrong : ChangeSpec := { name := "fnTallyAddMatchesCounts", fn := fun _ => fun
  | [d1, d2] => { results := [.lit (.bool false)], args := [d1, d2] }
  | _ => none }
def FnTallyAddMatchesCountsWrongFalsely : Prop := fnTallyAddMatchesCountsRow.holds Try.pinned (OpenSpec.ofChange fnTallyAddMatchesCountsWrong)

end Rows
end Go.Proofs.Qxb6001738a
