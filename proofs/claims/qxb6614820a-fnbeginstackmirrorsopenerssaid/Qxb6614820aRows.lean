/-
  No cell of these rows narrows 'for every input' (looked for: loops, veiled, ifaces, maps, wideKeys, modest, calm, conditions, laid).
  DERIVED. THE GIVEN ROWS OF THIS SEAT. 4 by the template 'for every input the law returns true; each argument reads behind the call as it read before'; 0 by the template 'total and deterministic' (their statements: Qxb6614820aTotals.lean).
  GIVEN WITH THE SEED: the statements are not yours to turn. If you find one false, say at which input.
  Laid BY PROGRAM, IN A SANDBOX (cutbox-rows.mjs): the forced cells as the released guide's own fill.sh prints them over the translation a1a9e2cc8bda1dbf… (all of the seat's roots in one cut). By AI agents, Wed Nov 11 2026. No macro, syntax, notation, axiom, sorry.
-/
import Derived.Test.Qxb6614820aChecked
import GoSem.Claim
import GoSem.ClaimJoined
import GoSem.ClaimMapViews
import Derived.JoinedTies
import Derived.KernelRfl
namespace Go.Proofs.Qxb6614820a
/- THE CELL 'sum', in the pinned program and in every row, IS THE sha256 OF THE DUMP (.gsa) THAT Qxb6614820aProg.lean LOADS. Nothing in Lean hashes anything: it is a label: what it is worth is what the hold of that sum in a sandbox is worth. -/
noncomputable def Try.pinned : Pinned := { name := "qxb6614820a", sum := "a1a9e2cc8bda1dbf59768addff683f153fd1db60924838c6975c45aede1a3bc4", checked := Try.checked }
namespace Rows
def none {H : Type} : Left H := { results := [], args := [] }

/-- 'zzlaws_asn1_b1.FnKindOfNamesKindsApart': WHATEVER THE INPUT: true; the input reads as it did. -/
def fnKindOfNamesKindsApartSpec : ChangeSpec := { name := "fnKindOfNamesKindsApart", fn := fun _ => fun
  | [d1, d2] => { results := [.lit (.bool true)], args := [d1, d2] }
  | _ => none }
def fnKindOfNamesKindsApartRow : OpenClaim := { program := "qxb6614820a", sum := "a1a9e2cc8bda1dbf59768addff683f153fd1db60924838c6975c45aede1a3bc4", func := "example.com/roamwire/roamwire/zzlaws_asn1_b1.FnKindOfNamesKindsApart", spec := "fnKindOfNamesKindsApart", apart := false }
def FnKindOfNamesKindsApartSaid : Prop := fnKindOfNamesKindsApartRow.holds Try.pinned (OpenSpec.ofChange fnKindOfNamesKindsApartSpec)

/-- ITS FALSE NEIGHBOUR: 'it returns false'. Refute it at one input. -/
def fnKindOfNamesKindsApartWrong : ChangeSpec := { name := "fnKindOfNamesKindsApart", fn := fun _ => fun
  | [d1, d2] => { results := [.lit (.bool false)], args := [d1, d2] }
  | _ => none }
def FnKindOfNamesKindsApartWrongFalsely : Prop := fnKindOfNamesKindsApartRow.holds Try.pinned (OpenSpec.ofChange fnKindOfNamesKindsApartWrong)

/-- 'zzlaws_asn1_b1.FnBeginThenEndRoundTrip': WHATEVER THE INPUT: true; the input reads as it did. -/
def fnBeginThenEndRoundTripSpec : ChangeSpec := { name := "fnBeginThenEndRoundTrip", fn := fun _ => fun
  | [d1, d2, d3, d4, d5, d6, d7] => { results := [.lit (.bool true)], args := [d1, d2, d3, d4, d5, d6, d7] }
  | _ => none }
def fnBeginThenEndRoundTripRow : OpenClaim := { program := "qxb6614820a", sum := "a1a9e2cc8bda1dbf59768addff683f153fd1db60924838c6975c45aede1a3bc4", func := "example.com/roamwire/roamwire/zzlaws_asn1_b1.FnBeginThenEndRoundTrip", spec := "fnBeginThenEndRoundTrip", apart := false }
def FnBeginThenEndRoundTripSaid : Prop := fnBeginThenEndRoundTripRow.holds Try.pinned (OpenSpec.ofChange fnBeginThenEndRoundTripSpec)

/-- ITS FALSE NEIGHBOUR: 'it returns false'. Refute it at one input. -/
def fnBeginThenEndRoundTripWrong : ChangeSpec := { name := "fnBeginThenEndRoundTrip", fn := fun _ => fun
  | [d1, d2, d3, d4, d5, d6, d7] => { results := [.lit (.bool false)], args := [d1, d2, d3, d4, d5, d6, d7] }
  | _ => none }
def FnBeginThenEndRoundTripWrongFalsely : Prop := fnBeginThenEndRoundTripRow.holds Try.pinned (OpenSpec.ofChange fnBeginThenEndRoundTripWrong)

/-- 'zzlaws_asn1_b1.FnBeginStackMirrorsOpeners': WHATEVER THE INPUT: true; the input reads as it did. -/
def fnBeginStackMirrorsOpenersSpec : ChangeSpec := { name := "fnBeginStackMirrorsOpeners", fn := fun _ => fun
  | [d1, d2] => { results := [.lit (.bool true)], args := [d1, d2] }
  | _ => none }
def fnBeginStackMirrorsOpenersRow : OpenClaim := { program := "qxb6614820a", sum := "a1a9e2cc8bda1dbf59768addff683f153fd1db60924838c6975c45aede1a3bc4", func := "example.com/roamwire/roamwire/zzlaws_asn1_b1.FnBeginStackMirrorsOpeners", spec := "fnBeginStackMirrorsOpeners", apart := false }
def FnBeginStackMirrorsOpenersSaid : Prop := fnBeginStackMirrorsOpenersRow.holds Try.pinned (OpenSpec.ofChange fnBeginStackMirrorsOpenersSpec)

/-- ITS FALSE NEIGHBOUR: 'it returns false'. Refute it at one input. -/
def fnBeginStackMirrorsOpenersWrong : ChangeSpec := { name := "fnBeginStackMirrorsOpeners", fn := fun _ => fun
  | [d1, d2] => { results := [.lit (.bool false)], args := [d1, d2] }
  | _ => none }
def FnBeginStackMirrorsOpenersWrongFalsely : Prop := fnBeginStackMirrorsOpenersRow.holds Try.pinned (OpenSpec.ofChange fnBeginStackMirrorsOpenersWrong)

/-- 'zzlaws_asn1_b1.FnElementAdvancesIndexAndCommas': WHATEVER THE INPUT: true; the input reads as it did. -/
def fnElementAdvancesIndexAndCommasSpec : ChangeSpec := { name := "fnElementAdvancesIndexAndCommas", fn := fun _ => fun
  | [d1, d2, d3, d4, d5, d6] => { results := [.lit (.bool true)], args := [d1, d2, d3, d4, d5, d6] }
  | _ => none }
def fnElementAdvancesIndexAndCommasRow : OpenClaim := { program := "qxb6614820a", sum := "a1a9e2cc8bda1dbf59768addff683f153fd1db60924838c6975c45aede1a3bc4", func := "example.com/roamwire/roamwire/zzlaws_asn1_b1.FnElementAdvancesIndexAndCommas", spec := "fnElementAdvancesIndexAndCommas", unfollowed := true, recurses := true, apart := false }
def FnElementAdvancesIndexAndCommasSaid : Prop := fnElementAdvancesIndexAndCommasRow.holds Try.pinned (OpenSpec.ofChange fnElementAdvancesIndexAndCommasSpec)

/-- ITS FALSE NEIGHBOUR: 'it returns false'. Refute it at one input. -/
def fnElementAdvancesIndexAndCommasWrong : ChangeSpec := { name := "fnElementAdvancesIndexAndCommas", fn := fun _ => fun
  | [d1, d2, d3, d4, d5, d6] => { results := [.lit (.bool false)], args := [d1, d2, d3, d4, d5, d6] }
  | _ => none }
def FnElementAdvancesIndexAndCommasWrongFalsely : Prop := fnElementAdvancesIndexAndCommasRow.holds Try.pinned (OpenSpec.ofChange fnElementAdvancesIndexAndCommasWrong)

end Rows
end Go.Proofs.Qxb6614820a
