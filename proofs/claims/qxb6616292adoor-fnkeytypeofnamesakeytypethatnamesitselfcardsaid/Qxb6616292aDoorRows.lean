/-
  NARROWER THAN 'FOR EVERY INPUT', by the rows' own cells (each row's printed sentence says how): FnKeyTypeOfNamesAKeyTypeThatNamesItself: maps, laid.
  DERIVED. THE GIVEN ROWS OF THIS SEAT. 1 by the template 'for every input the law returns true; each argument reads behind the call as it read before'; 0 by the template 'total and deterministic' (their statements: Qxb6616292aDoorTotals.lean).
  GIVEN WITH THE SEED: the statements are not yours to turn. If you find one false, say at which input.
  Laid BY PROGRAM, IN A SANDBOX (cutbox-rows.mjs): the forced cells as the released guide's own fill.sh prints them over the translation cdfc94067e1c906a… (all of the seat's roots in one cut). By AI agents, Wed Nov 11 2026. No macro, syntax, notation, axiom, sorry.
-/
import Derived.Test.Qxb6616292aDoorChecked
import GoSem.Claim
import GoSem.ClaimJoined
import GoSem.ClaimMapViews
import Derived.JoinedTies
import Derived.KernelRfl
namespace Go.Proofs.Qxb6616292aDoor
/- THE CELL 'sum', in the pinned program and in every row, IS THE sha256 OF THE DUMP (.gsa) THAT Qxb6616292aDoorProg.lean LOADS. Nothing in Lean hashes anything: it is a label: what it is worth is what the hold of that sum in a sandbox is worth. -/
noncomputable def Tryd.pinned : Pinned := { name := "qxb6616292adoor", sum := "cdfc94067e1c906a4a4896c5cc54f8ed31f6d34f1a2ac43c7e5c681e8ece4d71", checked := Tryd.checked }
namespace Rows
def none {H : Type} : Left H := { results := [], args := [] }

/- WHAT THE LISTED PACKAGE-LEVEL VARIABLES READ AS WHEN THE CALL BEGINS. Each datum BY PROGRAM (the guide's laid-datum.mjs) off the statement by which the dump's own 'gosem.cut.vars' lays the variable. In a bare row this is a premise. The card (Qxb6616292aDoorCards.lean) ties it to the program's text. -/
def laid_example_com_mooring_mooring_internal_sshkey_algorithms {H : Type} : DataW H := .map [(.string [114, 115, 97, 45, 115, 104, 97, 50, 45, 50, 53, 54], .agg [.lit (.string [115, 115, 104, 45, 114, 115, 97]), .lit (.int .u64 5)]), (.string [114, 115, 97, 45, 115, 104, 97, 50, 45, 53, 49, 50], .agg [.lit (.string [115, 115, 104, 45, 114, 115, 97]), .lit (.int .u64 7)]), (.string [115, 115, 104, 45, 100, 115, 115], .agg [.lit (.string [115, 115, 104, 45, 100, 115, 115]), .lit (.int .u64 3)]), (.string [115, 115, 104, 45, 101, 100, 50, 53, 53, 49, 57], .agg [.lit (.string [115, 115, 104, 45, 101, 100, 50, 53, 53, 49, 57]), .lit (.int .u64 0)]), (.string [115, 115, 104, 45, 114, 115, 97], .agg [.lit (.string [115, 115, 104, 45, 114, 115, 97]), .lit (.int .u64 3)])]

/-- 'zzlaws_internal_sshkey_b1.FnKeyTypeOfNamesAKeyTypeThatNamesItself': WHATEVER THE INPUT: true; the input reads as it did. -/
def fnKeyTypeOfNamesAKeyTypeThatNamesItselfSpec : ChangeSpec := { name := "fnKeyTypeOfNamesAKeyTypeThatNamesItself", vars := ["example.com/mooring/mooring/internal/sshkey.algorithms"], fn := fun _ => fun
  | [d, g1] => { results := [.lit (.bool true)], args := [d], vars := [g1] }
  | _ => none }
def fnKeyTypeOfNamesAKeyTypeThatNamesItselfRow : OpenClaim := { program := "qxb6616292adoor", sum := "cdfc94067e1c906a4a4896c5cc54f8ed31f6d34f1a2ac43c7e5c681e8ece4d71", func := "example.com/mooring/mooring/zzlaws_internal_sshkey_b1.FnKeyTypeOfNamesAKeyTypeThatNamesItself", spec := "fnKeyTypeOfNamesAKeyTypeThatNamesItself", named := ["example.com/mooring/mooring/internal/sshkey.algorithms"], maps := true, apart := false, laid := [("example.com/mooring/mooring/internal/sshkey.algorithms", laid_example_com_mooring_mooring_internal_sshkey_algorithms)] }
def FnKeyTypeOfNamesAKeyTypeThatNamesItselfSaid : Prop := fnKeyTypeOfNamesAKeyTypeThatNamesItselfRow.holds Tryd.pinned (OpenSpec.ofChange fnKeyTypeOfNamesAKeyTypeThatNamesItselfSpec)

/-- ITS FALSE NEIGHBOUR: 'it returns false'. Refute it at one input. -/
def fnKeyTypeOfNamesAKeyTypeThatNamesItselfWrong : ChangeSpec := { name := "fnKeyTypeOfNamesAKeyTypeThatNamesItself", vars := ["example.com/mooring/mooring/internal/sshkey.algorithms"], fn := fun _ => fun
  | [d, g1] => { results := [.lit (.bool false)], args := [d], vars := [g1] }
  | _ => none }
def FnKeyTypeOfNamesAKeyTypeThatNamesItselfWrongFalsely : Prop := fnKeyTypeOfNamesAKeyTypeThatNamesItselfRow.holds Tryd.pinned (OpenSpec.ofChange fnKeyTypeOfNamesAKeyTypeThatNamesItselfWrong)

end Rows
end Go.Proofs.Qxb6616292aDoor
