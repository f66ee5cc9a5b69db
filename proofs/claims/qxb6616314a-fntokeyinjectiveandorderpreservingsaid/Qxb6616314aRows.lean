/-
  No cell of these rows narrows 'for every input' (looked for: loops, veiled, ifaces, maps, wideKeys, modest, calm, conditions, laid).
  DERIVED. THE GIVEN ROWS OF THIS SEAT. 5 by the template 'for every input the law returns true; each argument reads behind the call as it read before'; 0 by the template 'total and deterministic' (their statements: Qxb6616314aTotals.lean).
  GIVEN WITH THE SEED: the statements are not yours to turn. If you find one false, say at which input.
  Laid BY PROGRAM, IN A SANDBOX (cutbox-rows.mjs): the forced cells as the released guide's own fill.sh prints them over the translation c552e120298a4af1… (all of the seat's roots in one cut). By AI agents, Wed Nov 11 2026. No macro, syntax, notation, axiom, sorry.
-/
import Derived.Test.Qxb6616314aChecked
import GoSem.Claim
import GoSem.ClaimJoined
import GoSem.ClaimMapViews
import Derived.JoinedTies
import Derived.KernelRfl
namespace Go.Proofs.Qxb6616314a
/- THE CELL 'sum', in the pinned program and in every row, IS THE sha256 OF THE DUMP (.gsa) THAT Qxb6616314aProg.lean LOADS. Nothing in Lean hashes anything: it is a label: what it is worth is what the hold of that sum in a sandbox is worth. -/
noncomputable def Try.pinned : Pinned := { name := "qxb6616314a", sum := "c552e120298a4af1614af42b7538c9495716750b93b17598c5fbfc113beeaea3", checked := Try.checked }
namespace Rows
def none {H : Type} : Left H := { results := [], args := [] }

/-- 'zzlaws_pkg_declaration_b1.FnResourceScopeInsertRemove': WHATEVER THE INPUT: true; the input reads as it did. -/
def fnResourceScopeInsertRemoveSpec : ChangeSpec := { name := "fnResourceScopeInsertRemove", fn := fun _ => fun
  | [d1, d2, d3, d4, d5, d6, d7] => { results := [.lit (.bool true)], args := [d1, d2, d3, d4, d5, d6, d7] }
  | _ => none }
def fnResourceScopeInsertRemoveRow : OpenClaim := { program := "qxb6616314a", sum := "c552e120298a4af1614af42b7538c9495716750b93b17598c5fbfc113beeaea3", func := "example.com/stonekeel/stonekeel/zzlaws_pkg_declaration_b1.FnResourceScopeInsertRemove", spec := "fnResourceScopeInsertRemove", plainKeys := false, apart := false }
def FnResourceScopeInsertRemoveSaid : Prop := fnResourceScopeInsertRemoveRow.holds Try.pinned (OpenSpec.ofChange fnResourceScopeInsertRemoveSpec)

/-- ITS FALSE NEIGHBOUR: 'it returns false'. Refute it at one input. -/
def fnResourceScopeInsertRemoveWrong : ChangeSpec := { name := "fnResourceScopeInsertRemove", fn := fun _ => fun
  | [d1, d2, d3, d4, d5, d6, d7] => { results := [.lit (.bool false)], args := [d1, d2, d3, d4, d5, d6, d7] }
  | _ => none }
def FnResourceScopeInsertRemoveWrongFalsely : Prop := fnResourceScopeInsertRemoveRow.holds Try.pinned (OpenSpec.ofChange fnResourceScopeInsertRemoveWrong)

/-- 'zzlaws_pkg_declaration_b1.FnResourceScopeCutIsMax': WHATEVER THE INPUT: true; the input reads as it did. -/
def fnResourceScopeCutIsMaxSpec : ChangeSpec := { name := "fnResourceScopeCutIsMax", fn := fun _ => fun
  | [d1, d2, d3, d4, d5, d6, d7] => { results := [.lit (.bool true)], args := [d1, d2, d3, d4, d5, d6, d7] }
  | _ => none }
def fnResourceScopeCutIsMaxRow : OpenClaim := { program := "qxb6616314a", sum := "c552e120298a4af1614af42b7538c9495716750b93b17598c5fbfc113beeaea3", func := "example.com/stonekeel/stonekeel/zzlaws_pkg_declaration_b1.FnResourceScopeCutIsMax", spec := "fnResourceScopeCutIsMax", plainKeys := false, apart := false }
def FnResourceScopeCutIsMaxSaid : Prop := fnResourceScopeCutIsMaxRow.holds Try.pinned (OpenSpec.ofChange fnResourceScopeCutIsMaxSpec)

/-- ITS FALSE NEIGHBOUR: 'it returns false'. Refute it at one input. -/
def fnResourceScopeCutIsMaxWrong : ChangeSpec := { name := "fnResourceScopeCutIsMax", fn := fun _ => fun
  | [d1, d2, d3, d4, d5, d6, d7] => { results := [.lit (.bool false)], args := [d1, d2, d3, d4, d5, d6, d7] }
  | _ => none }
def FnResourceScopeCutIsMaxWrongFalsely : Prop := fnResourceScopeCutIsMaxRow.holds Try.pinned (OpenSpec.ofChange fnResourceScopeCutIsMaxWrong)

/-- 'zzlaws_pkg_declaration_b1.FnToKeyInjectiveAndOrderPreserving': WHATEVER THE INPUT: true; the input reads as it did. -/
def fnToKeyInjectiveAndOrderPreservingSpec : ChangeSpec := { name := "fnToKeyInjectiveAndOrderPreserving", fn := fun _ => fun
  | [d1, d2] => { results := [.lit (.bool true)], args := [d1, d2] }
  | _ => none }
def fnToKeyInjectiveAndOrderPreservingRow : OpenClaim := { program := "qxb6616314a", sum := "c552e120298a4af1614af42b7538c9495716750b93b17598c5fbfc113beeaea3", func := "example.com/stonekeel/stonekeel/zzlaws_pkg_declaration_b1.FnToKeyInjectiveAndOrderPreserving", spec := "fnToKeyInjectiveAndOrderPreserving", plainKeys := false, apart := false }
def FnToKeyInjectiveAndOrderPreservingSaid : Prop := fnToKeyInjectiveAndOrderPreservingRow.holds Try.pinned (OpenSpec.ofChange fnToKeyInjectiveAndOrderPreservingSpec)

/-- ITS FALSE NEIGHBOUR: 'it returns false'. Refute it at one input. -/
def fnToKeyInjectiveAndOrderPreservingWrong : ChangeSpec := { name := "fnToKeyInjectiveAndOrderPreserving", fn := fun _ => fun
  | [d1, d2] => { results := [.lit (.bool false)], args := [d1, d2] }
  | _ => none }
def FnToKeyInjectiveAndOrderPreservingWrongFalsely : Prop := fnToKeyInjectiveAndOrderPreservingRow.holds Try.pinned (OpenSpec.ofChange fnToKeyInjectiveAndOrderPreservingWrong)

/-- 'zzlaws_pkg_declaration_b1.FnStartsFromInsertRemove': WHATEVER THE INPUT: true; the input reads as it did. -/
def fnStartsFromInsertRemoveSpec : ChangeSpec := { name := "fnStartsFromInsertRemove", fn := fun _ => fun
  | [d1, d2, d3, d4] => { results := [.lit (.bool true)], args := [d1, d2, d3, d4] }
  | _ => none }
def fnStartsFromInsertRemoveRow : OpenClaim := { program := "qxb6616314a", sum := "c552e120298a4af1614af42b7538c9495716750b93b17598c5fbfc113beeaea3", func := "example.com/stonekeel/stonekeel/zzlaws_pkg_declaration_b1.FnStartsFromInsertRemove", spec := "fnStartsFromInsertRemove", plainKeys := false, apart := false }
def FnStartsFromInsertRemoveSaid : Prop := fnStartsFromInsertRemoveRow.holds Try.pinned (OpenSpec.ofChange fnStartsFromInsertRemoveSpec)

/-- ITS FALSE NEIGHBOUR: 'it returns false'. Refute it at one input. -/
def fnStartsFromInsertRemoveWrong : ChangeSpec := { name := "fnStartsFromInsertRemove", fn := fun _ => fun
  | [d1, d2, d3, d4] => { results := [.lit (.bool false)], args := [d1, d2, d3, d4] }
  | _ => none }
def FnStartsFromInsertRemoveWrongFalsely : Prop := fnStartsFromInsertRemoveRow.holds Try.pinned (OpenSpec.ofChange fnStartsFromInsertRemoveWrong)

/-- 'zzlaws_pkg_declaration_b1.FnStartsFromCutIsOr': WHATEVER THE INPUT: true; the input reads as it did. -/
def fnStartsFromCutIsOrSpec : ChangeSpec := { name := "fnStartsFromCutIsOr", fn := fun _ => fun
  | [d1, d2, d3] => { results := [.lit (.bool true)], args := [d1, d2, d3] }
  | _ => none }
def fnStartsFromCutIsOrRow : OpenClaim := { program := "qxb6616314a", sum := "c552e120298a4af1614af42b7538c9495716750b93b17598c5fbfc113beeaea3", func := "example.com/stonekeel/stonekeel/zzlaws_pkg_declaration_b1.FnStartsFromCutIsOr", spec := "fnStartsFromCutIsOr", plainKeys := false, apart := false }
def FnStartsFromCutIsOrSaid : Prop := fnStartsFromCutIsOrRow.holds Try.pinned (OpenSpec.ofChange fnStartsFromCutIsOrSpec)

/-- ITS FALSE NEIGHBOUR: 'it returns false'. Refute it at one input. -/
def fnStartsFromCutIsOrWrong : ChangeSpec := { name := "fnStartsFromCutIsOr", fn := fun _ => fun
  | [d1, d2, d3] => { results := [.lit (.bool false)], args := [d1, d2, d3] }
  | _ => none }
def FnStartsFromCutIsOrWrongFalsely : Prop := fnStartsFromCutIsOrRow.holds Try.pinned (OpenSpec.ofChange fnStartsFromCutIsOrWrong)

end Rows
end Go.Proofs.Qxb6616314a
