/-
  No cell of these rows narrows 'for every input' (looked for: loops, veiled, ifaces, maps, wideKeys, modest, calm, conditions, laid).
  DERIVED. THE GIVEN ROWS OF THIS SEAT. 1 by the template 'for every input the law returns true; each argument reads behind the call as it read before'; 0 by the template 'total and deterministic' (their statements: Qxb6616256aTotals.lean).
  GIVEN WITH THE SEED: the statements are not yours to turn. If you find one false, say at which input.
  Laid BY PROGRAM, IN A SANDBOX (cutbox-rows.mjs): the forced cells as the released guide's own fill.sh prints them over the translation aeb7795cf581e0e4… (all of the seat's roots in one cut). By AI agents, Wed Nov 11 2026. No macro, syntax, notation, axiom, sorry.
-/
import Derived.Test.Qxb6616256aChecked
import GoSem.Claim
import GoSem.ClaimJoined
import GoSem.ClaimMapViews
import Derived.JoinedTies
import Derived.KernelRfl
namespace Go.Proofs.Qxb6616256a
/- THE CELL 'sum', in the pinned program and in every row, IS THE sha256 OF THE DUMP (.gsa) THAT Qxb6616256aProg.lean LOADS. Nothing in Lean hashes anything: it is a label: what it is worth is what the hold of that sum in a sandbox is worth. -/
noncomputable def Try.pinned : Pinned := { name := "qxb6616256a", sum := "aeb7795cf581e0e4c50d32fdf27d566736c0196f1cd216e0ce6c6356e67f0ff2", checked := Try.checked }
namespace Rows
def none {H : Type} : Left H := { results := [], args := [] }

/-- 'zzlaws_root_b1.FnSearchPlacesAnyKey': WHATEVER THE INPUT: true; the input reads as it did. -/
def fnSearchPlacesAnyKeySpec : ChangeSpec := { name := "fnSearchPlacesAnyKey", fn := fun _ => fun
  | [d1, d2, d3, d4, d5, d6, d7, d8, d9, d10] => { results := [.lit (.bool true)], args := [d1, d2, d3, d4, d5, d6, d7, d8, d9, d10] }
  | _ => none }
def fnSearchPlacesAnyKeyRow : OpenClaim := { program := "qxb6616256a", sum := "aeb7795cf581e0e4c50d32fdf27d566736c0196f1cd216e0ce6c6356e67f0ff2", func := "example.com/precedence/precedence/zzlaws_root_b1.FnSearchPlacesAnyKey", spec := "fnSearchPlacesAnyKey", inPlace := ["internal/bytealg.abigen_runtime_cmpstring"], unfollowed := true, recurses := true, apart := false }
def FnSearchPlacesAnyKeySaid : Prop := fnSearchPlacesAnyKeyRow.holds Try.pinned (OpenSpec.ofChange fnSearchPlacesAnyKeySpec)

/-- ITS FALSE NEIGHBOUR: 'it returns false'. Refute it at one input. -/
def fnSearchPlacesAnyKeyWrong : ChangeSpec := { name := "fnSearchPlacesAnyKey", fn := fun _ => fun
  | [d1, d2, d3, d4, d5, d6, d7, d8, d9, d10] => { results := [.lit (.bool false)], args := [d1, d2, d3, d4, d5, d6, d7, d8, d9, d10] }
  | _ => none }
def FnSearchPlacesAnyKeyWrongFalsely : Prop := fnSearchPlacesAnyKeyRow.holds Try.pinned (OpenSpec.ofChange fnSearchPlacesAnyKeyWrong)

end Rows
end Go.Proofs.Qxb6616256a
