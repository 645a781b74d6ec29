/-
  No cell of these rows narrows 'for every input' (looked for: loops, veiled, ifaces, maps, wideKeys, modest, calm, conditions, laid).
  DERIVED. THE GIVEN ROWS OF THIS SEAT. 3 by the template 'for every input the law returns true; each argument reads behind the call as it read before'; 0 by the template 'total and deterministic' (their statements: Qxb6603466aTotals.lean).
  GIVEN WITH THE SEED: the statements are not yours to turn. If you find one false, say at which input.
  Laid BY PROGRAM, IN A SANDBOX (cutbox-rows.mjs): the forced cells as the released guide's own fill.sh prints them over the translation 04c802eb6825b496… (all of the seat's roots in one cut). By AI agents, Wed Nov 11 2026. No macro, syntax, notation, axiom, sorry.
-/
import Derived.Test.Qxb6603466aChecked
import GoSem.Claim
import GoSem.ClaimJoined
import GoSem.ClaimMapViews
import Derived.JoinedTies
import Derived.KernelRfl
namespace Go.Proofs.Qxb6603466a
/- THE CELL 'sum', in the pinned program and in every row, IS THE sha256 OF THE DUMP (.gsa) THAT Qxb6603466aProg.lean LOADS. Nothing in Lean hashes anything: it is a label: what it is worth is what the hold of that sum in a sandbox is worth. -/
noncomputable def Try.pinned : Pinned := { name := "qxb6603466a", sum := "04c802eb6825b4963f866014d8553a941493f53e664d01c04de694585239afd2", checked := Try.checked }
namespace Rows
def none {H : Type} : Left H := { results := [], args := [] }

/-- 'zzlaws_internal_server_b1.FnSplitPathMatchesDecompositionModel': WHATEVER THE INPUT: true; the input reads as it did. -/
def fnSplitPathMatchesDecompositionModelSpec : ChangeSpec := { name := "fnSplitPathMatchesDecompositionModel", fn := fun _ => fun
  | [d] => { results := [.lit (.bool true)], args := [d] }
  | _ => none }
def fnSplitPathMatchesDecompositionModelRow : OpenClaim := { program := "qxb6603466a", sum := "04c802eb6825b4963f866014d8553a941493f53e664d01c04de694585239afd2", func := "example.com/keystride/keystride/zzlaws_internal_server_b1.FnSplitPathMatchesDecompositionModel", spec := "fnSplitPathMatchesDecompositionModel", inPlace := ["internal/bytealg.IndexByteString", "internal/bytealg.IndexString"], named := ["internal/bytealg.MaxLen"], apart := false }
def FnSplitPathMatchesDecompositionModelSaid : Prop := fnSplitPathMatchesDecompositionModelRow.holds Try.pinned (OpenSpec.ofChange fnSplitPathMatchesDecompositionModelSpec)

/-- ITS FALSE NEIGHBOUR: 'it returns false'. Refute it at one input. -/
def fnSplitPathMatchesDecompositionModelWrong : ChangeSpec := { name := "fnSplitPathMatchesDecompositionModel", fn := fun _ => fun
  | [d] => { results := [.lit (.bool false)], args := [d] }
  | _ => none }
def FnSplitPathMatchesDecompositionModelWrongFalsely : Prop := fnSplitPathMatchesDecompositionModelRow.holds Try.pinned (OpenSpec.ofChange fnSplitPathMatchesDecompositionModelWrong)

/-- 'zzlaws_internal_server_b1.FnSplitPathInvertsJoin': WHATEVER THE INPUT: true; the input reads as it did. -/
def fnSplitPathInvertsJoinSpec : ChangeSpec := { name := "fnSplitPathInvertsJoin", fn := fun _ => fun
  | [d1, d2] => { results := [.lit (.bool true)], args := [d1, d2] }
  | _ => none }
def fnSplitPathInvertsJoinRow : OpenClaim := { program := "qxb6603466a", sum := "04c802eb6825b4963f866014d8553a941493f53e664d01c04de694585239afd2", func := "example.com/keystride/keystride/zzlaws_internal_server_b1.FnSplitPathInvertsJoin", spec := "fnSplitPathInvertsJoin", inPlace := ["internal/bytealg.IndexByteString", "internal/bytealg.IndexString"], named := ["internal/bytealg.MaxLen"], apart := false }
def FnSplitPathInvertsJoinSaid : Prop := fnSplitPathInvertsJoinRow.holds Try.pinned (OpenSpec.ofChange fnSplitPathInvertsJoinSpec)

/-- ITS FALSE NEIGHBOUR: 'it returns false'. Refute it at one input. -/
def fnSplitPathInvertsJoinWrong : ChangeSpec := { name := "fnSplitPathInvertsJoin", fn := fun _ => fun
  | [d1, d2] => { results := [.lit (.bool false)], args := [d1, d2] }
  | _ => none }
def FnSplitPathInvertsJoinWrongFalsely : Prop := fnSplitPathInvertsJoinRow.holds Try.pinned (OpenSpec.ofChange fnSplitPathInvertsJoinWrong)

/-- 'zzlaws_internal_server_b1.FnSplitPathJoinRestores': WHATEVER THE INPUT: true; the input reads as it did. -/
def fnSplitPathJoinRestoresSpec : ChangeSpec := { name := "fnSplitPathJoinRestores", fn := fun _ => fun
  | [d] => { results := [.lit (.bool true)], args := [d] }
  | _ => none }
def fnSplitPathJoinRestoresRow : OpenClaim := { program := "qxb6603466a", sum := "04c802eb6825b4963f866014d8553a941493f53e664d01c04de694585239afd2", func := "example.com/keystride/keystride/zzlaws_internal_server_b1.FnSplitPathJoinRestores", spec := "fnSplitPathJoinRestores", inPlace := ["internal/bytealg.IndexByteString", "internal/bytealg.IndexString"], named := ["internal/bytealg.MaxLen"], apart := false }
def FnSplitPathJoinRestoresSaid : Prop := fnSplitPathJoinRestoresRow.holds Try.pinned (OpenSpec.ofChange fnSplitPathJoinRestoresSpec)

/-- ITS FALSE NEIGHBOUR: 'it returns false'. Refute it at one input. -/
def fnSplitPathJoinRestoresWrong : ChangeSpec := { name := "fnSplitPathJoinRestores", fn := fun _ => fun
  | [d] => { results := [.lit (.bool false)], args := [d] }
  | _ => none }
def FnSplitPathJoinRestoresWrongFalsely : Prop := fnSplitPathJoinRestoresRow.holds Try.pinned (OpenSpec.ofChange fnSplitPathJoinRestoresWrong)

end Rows
end Go.Proofs.Qxb6603466a
