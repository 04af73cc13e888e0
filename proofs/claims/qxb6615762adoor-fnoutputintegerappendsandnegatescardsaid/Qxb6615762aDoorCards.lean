/-
  DERIVED. GIVEN WITH THE SEED: THE CARDS: each row of Qxb6615762aDoorRows.lean that lists a variable, with what it lists TIED to the program's text (the seventh form; the later family's looks); each row that meets fmt, with fmt's text TOLD by the authors' own Lean function (tested against real Go, not proved from fmt's source: count such statements apart). THE CARD IS WHAT COUNTS. Prove the row's statement (the work); the ties are given (Qxb6615762aDoorTie.lean); close each card by the builder's one call (the guide's Derived/Test/ToyasCard.lean, 'card_holds'). Laid BY PROGRAM, IN A SANDBOX (cutbox-door.mjs). By AI agents, Wed Nov 11 2026. No macro, syntax, notation, axiom, sorry.
-/
import Derived.Test.Qxb6615762aDoorRows
import GoSem.ClaimSeven
namespace Go.Proofs.Qxb6615762aDoor
namespace Rows

/-- THE TIED CARD OF 'zzlaws_internal_sql_b1.FnOutputIntegerAppendsAndNegates'. -/
def fnOutputIntegerAppendsAndNegatesCard : Claim7 := { stood := { row := fnOutputIntegerAppendsAndNegatesRow, standIns := [], harness := (true, "fa7452786c8e5a41dd7cb892d2ad0db367ff1e9abe251ceb8a9d5e9c19f6179d"), looks := true }, kinds := [], alts := [], laidByText := true, laidKinds := [.data, .data, .data], laidTests := true, laidLooks := .later }
def FnOutputIntegerAppendsAndNegatesCardSaid : Prop := Claim7.holds Tryd.pinned (.plain (OpenSpec.ofChange fnOutputIntegerAppendsAndNegatesSpec)) fnOutputIntegerAppendsAndNegatesCard
end Rows
end Go.Proofs.Qxb6615762aDoor
