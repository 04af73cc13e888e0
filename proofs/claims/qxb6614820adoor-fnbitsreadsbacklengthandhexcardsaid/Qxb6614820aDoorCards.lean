/-
  DERIVED. GIVEN WITH THE SEED: THE CARDS: each row of Qxb6614820aDoorRows.lean that lists a variable, with what it lists TIED to the program's text (the seventh form; the later family's looks); each row that meets fmt, with fmt's text TOLD by the authors' own Lean function (tested against real Go, not proved from fmt's source: count such statements apart). THE CARD IS WHAT COUNTS. Prove the row's statement (the work); the ties are given (Qxb6614820aDoorTie.lean); close each card by the builder's one call (the guide's Derived/Test/ToyasCard.lean, 'card_holds'). Laid BY PROGRAM, IN A SANDBOX (cutbox-door.mjs). By AI agents, Wed Nov 11 2026. No macro, syntax, notation, axiom, sorry.
-/
import Derived.Test.Qxb6614820aDoorRows
import GoSem.ClaimSeven
namespace Go.Proofs.Qxb6614820aDoor
namespace Rows

/-- THE TIED CARD OF 'zzlaws_asn1_b1.FnElementJoinsArrayOfInts'. -/
def fnElementJoinsArrayOfIntsCard : Claim7 := { stood := { row := fnElementJoinsArrayOfIntsRow, standIns := [], harness := (true, "b111a5fa5f77e1908f1cc4d19e32394213248c6e3efdbc5d7ea073bbe1a7b4ce"), looks := false }, kinds := [], alts := [], laidByText := true, laidKinds := [.data, .data, .data], laidTests := true, laidLooks := .later }
def FnElementJoinsArrayOfIntsCardSaid : Prop := Claim7.holds Tryd.pinned (.plain (OpenSpec.ofChange fnElementJoinsArrayOfIntsSpec)) fnElementJoinsArrayOfIntsCard

/-- THE TIED CARD OF 'zzlaws_asn1_b1.FnBitsReadsBackLengthAndHex'. -/
def fnBitsReadsBackLengthAndHexCard : Claim7 := { stood := { row := fnBitsReadsBackLengthAndHexRow, standIns := [], harness := (true, "b111a5fa5f77e1908f1cc4d19e32394213248c6e3efdbc5d7ea073bbe1a7b4ce"), looks := false }, kinds := [], alts := [], laidByText := true, laidKinds := [.data, .data, .data], laidTests := true, laidLooks := .later }
def FnBitsReadsBackLengthAndHexCardSaid : Prop := Claim7.holds Tryd.pinned (.plain (OpenSpec.ofChange fnBitsReadsBackLengthAndHexSpec)) fnBitsReadsBackLengthAndHexCard

/-- THE TIED CARD OF 'zzlaws_asn1_b1.FnBitsIsOneToOne'. -/
def fnBitsIsOneToOneCard : Claim7 := { stood := { row := fnBitsIsOneToOneRow, standIns := [], harness := (true, "b111a5fa5f77e1908f1cc4d19e32394213248c6e3efdbc5d7ea073bbe1a7b4ce"), looks := false }, kinds := [], alts := [], laidByText := true, laidKinds := [.data, .data, .data], laidTests := true, laidLooks := .later }
def FnBitsIsOneToOneCardSaid : Prop := Claim7.holds Tryd.pinned (.plain (OpenSpec.ofChange fnBitsIsOneToOneSpec)) fnBitsIsOneToOneCard
end Rows
end Go.Proofs.Qxb6614820aDoor
