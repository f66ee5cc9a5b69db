/-
  DERIVED. GIVEN WITH THE SEED: THE CARDS: each row of Qxb6616292aDoorRows.lean that lists a variable, with what it lists TIED to the program's text (the seventh form; the later family's looks); each row that meets fmt, with fmt's text TOLD by the authors' own Lean function (tested against real Go, not proved from fmt's source: count such statements apart). THE CARD IS WHAT COUNTS. Prove the row's statement (the work); the ties are given (Qxb6616292aDoorTie.lean); close each card by the builder's one call (the guide's Derived/Test/ToyasCard.lean, 'card_holds'). Laid BY PROGRAM, IN A SANDBOX (cutbox-door.mjs). By AI agents, Wed Nov 11 2026. No macro, syntax, notation, axiom, sorry.
-/
import Derived.Test.Qxb6616292aDoorRows
import GoSem.ClaimSeven
namespace Go.Proofs.Qxb6616292aDoor
namespace Rows

/-- THE TIED CARD OF 'zzlaws_internal_sshkey_b1.FnKeyTypeOfNamesAKeyTypeThatNamesItself'. -/
def fnKeyTypeOfNamesAKeyTypeThatNamesItselfCard : Claim7 := { stood := { row := fnKeyTypeOfNamesAKeyTypeThatNamesItselfRow, standIns := [], harness := (true, "c334659b27d54930f50c1a4c9504c2c21785b9ddf644d0feaeba1d7bf1d56c4c"), looks := false }, kinds := [], alts := [], laidByText := true, laidKinds := [.mapped], laidTests := true, laidLooks := .later }
def FnKeyTypeOfNamesAKeyTypeThatNamesItselfCardSaid : Prop := Claim7.holds Tryd.pinned (.plain (OpenSpec.ofChange fnKeyTypeOfNamesAKeyTypeThatNamesItselfSpec)) fnKeyTypeOfNamesAKeyTypeThatNamesItselfCard
end Rows
end Go.Proofs.Qxb6616292aDoor
