/-
  DERIVED. GIVEN WITH THE SEED: THE CARDS: each row of Qxb6608791aDoorRows.lean that lists a variable, with what it lists TIED to the program's text (the seventh form; the later family's looks); each row that meets fmt, with fmt's text TOLD by the authors' own Lean function (tested against real Go, not proved from fmt's source: count such statements apart). THE CARD IS WHAT COUNTS. Prove the row's statement (the work); the ties are given (Qxb6608791aDoorTie.lean); close each card by the builder's one call (the guide's Derived/Test/ToyasCard.lean, 'card_holds'). Laid BY PROGRAM, IN A SANDBOX (cutbox-door.mjs). By AI agents, Wed Nov 11 2026. No macro, syntax, notation, axiom, sorry.
-/
import Derived.Test.Qxb6608791aDoorRows
import GoSem.ClaimSeven
namespace Go.Proofs.Qxb6608791aDoor
namespace Rows

/-- THE TIED CARD OF 'zzlaws_store_b1.FnRevisionFileEndsInItsNumber'. -/
def fnRevisionFileEndsInItsNumberCard : Claim7 := { stood := { row := fnRevisionFileEndsInItsNumberRow, standIns := [], harness := (true, "850e1f67f2e1a4655dd8572e03dd0e1a6a06888ab325c4d23e608c3982d3f24b"), looks := false }, kinds := [], alts := [], laidByText := true, laidKinds := [.data, .data, .data], laidTests := true, laidLooks := .later }
def FnRevisionFileEndsInItsNumberCardSaid : Prop := Claim7.holds Tryd.pinned (.plain (OpenSpec.ofChange fnRevisionFileEndsInItsNumberSpec)) fnRevisionFileEndsInItsNumberCard

/-- THE TIED CARD OF 'zzlaws_store_b1.FnRevisionFileNoTwoRevisionsShareAFile'. -/
def fnRevisionFileNoTwoRevisionsShareAFileCard : Claim7 := { stood := { row := fnRevisionFileNoTwoRevisionsShareAFileRow, standIns := [], harness := (true, "850e1f67f2e1a4655dd8572e03dd0e1a6a06888ab325c4d23e608c3982d3f24b"), looks := false }, kinds := [], alts := [], laidByText := true, laidKinds := [.data, .data, .data], laidTests := true, laidLooks := .later }
def FnRevisionFileNoTwoRevisionsShareAFileCardSaid : Prop := Claim7.holds Tryd.pinned (.plain (OpenSpec.ofChange fnRevisionFileNoTwoRevisionsShareAFileSpec)) fnRevisionFileNoTwoRevisionsShareAFileCard
end Rows
end Go.Proofs.Qxb6608791aDoor
