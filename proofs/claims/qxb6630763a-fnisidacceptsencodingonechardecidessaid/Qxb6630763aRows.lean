/-
  No cell of these rows narrows 'for every input' (looked for: loops, veiled, ifaces, maps, wideKeys, modest, calm, conditions, laid).
  DERIVED. THE GIVEN ROWS OF THIS SEAT. 2 by the template 'for every input the law returns true; each argument reads behind the call as it read before'; 0 by the template 'total and deterministic' (their statements: Qxb6630763aTotals.lean).
  GIVEN WITH THE SEED: the statements are not yours to turn. If you find one false, say at which input.
  Laid BY PROGRAM, IN A SANDBOX (cutbox-rows.mjs): the forced cells as the released guide's own fill.sh prints them over the translation b8c019e6e0779672… (all of the seat's roots in one cut). By AI agents, Wed Nov 11 2026. No macro, syntax, notation, axiom, sorry.
-/
import Derived.Test.Qxb6630763aChecked
import GoSem.Claim
import GoSem.ClaimJoined
import GoSem.ClaimMapViews
import Derived.JoinedTies
import Derived.KernelRfl
namespace Go.Proofs.Qxb6630763a
/- THE CELL 'sum', in the pinned program and in every row, IS THE sha256 OF THE DUMP (.gsa) THAT Qxb6630763aProg.lean LOADS. Nothing in Lean hashes anything: it is a label: what it is worth is what the hold of that sum in a sandbox is worth. -/
noncomputable def Try.pinned : Pinned := { name := "qxb6630763a", sum := "b8c019e6e0779672e146c989c68705335afbcca3d91f0dda0576dcdf5286476a", checked := Try.checked }
namespace Rows
def none {H : Type} : Left H := { results := [], args := [] }

/-- 'zzlaws_pkg_cluster_b1.FnIsIDIsPositionwise': WHATEVER THE INPUT: true; the input reads as it did. -/
def fnIsIDIsPositionwiseSpec : ChangeSpec := { name := "fnIsIDIsPositionwise", fn := fun _ => fun
  | [d] => { results := [.lit (.bool true)], args := [d] }
  | _ => none }
def fnIsIDIsPositionwiseRow : OpenClaim := { program := "qxb6630763a", sum := "b8c019e6e0779672e146c989c68705335afbcca3d91f0dda0576dcdf5286476a", func := "example.com/slotmesh/slotmesh/zzlaws_pkg_cluster_b1.FnIsIDIsPositionwise", spec := "fnIsIDIsPositionwise", apart := false }
def FnIsIDIsPositionwiseSaid : Prop := fnIsIDIsPositionwiseRow.holds Try.pinned (OpenSpec.ofChange fnIsIDIsPositionwiseSpec)

/-- ITS FALSE NEIGHBOUR: 'it returns false'. Refute it at one input. -/
def fnIsIDIsPositionwiseWrong : ChangeSpec := { name := "fnIsIDIsPositionwise", fn := fun _ => fun
  | [d] => { results := [.lit (.bool false)], args := [d] }
  | _ => none }
def FnIsIDIsPositionwiseWrongFalsely : Prop := fnIsIDIsPositionwiseRow.holds Try.pinned (OpenSpec.ofChange fnIsIDIsPositionwiseWrong)

/-- 'zzlaws_pkg_cluster_b1.FnIsIDAcceptsEncodingOneCharDecides': WHATEVER THE INPUT: true; the input reads as it did. -/
def fnIsIDAcceptsEncodingOneCharDecidesSpec : ChangeSpec := { name := "fnIsIDAcceptsEncodingOneCharDecides", fn := fun _ => fun
  | [d1, d2, d3] => { results := [.lit (.bool true)], args := [d1, d2, d3] }
  | _ => none }
def fnIsIDAcceptsEncodingOneCharDecidesRow : OpenClaim := { program := "qxb6630763a", sum := "b8c019e6e0779672e146c989c68705335afbcca3d91f0dda0576dcdf5286476a", func := "example.com/slotmesh/slotmesh/zzlaws_pkg_cluster_b1.FnIsIDAcceptsEncodingOneCharDecides", spec := "fnIsIDAcceptsEncodingOneCharDecides", apart := false }
def FnIsIDAcceptsEncodingOneCharDecidesSaid : Prop := fnIsIDAcceptsEncodingOneCharDecidesRow.holds Try.pinned (OpenSpec.ofChange fnIsIDAcceptsEncodingOneCharDecidesSpec)

/-- ITS FALSE NEIGHBOUR: 'it returns false'. Refute it at one input. -/
def fnIsIDAcceptsEncodingOneCharDecidesWrong : ChangeSpec := { name := "fnIsIDAcceptsEncodingOneCharDecides", fn := fun _ => fun
  | [d1, d2, d3] => { results := [.lit (.bool false)], args := [d1, d2, d3] }
  | _ => none }
def FnIsIDAcceptsEncodingOneCharDecidesWrongFalsely : Prop := fnIsIDAcceptsEncodingOneCharDecidesRow.holds Try.pinned (OpenSpec.ofChange fnIsIDAcceptsEncodingOneCharDecidesWrong)

end Rows
end Go.Proofs.Qxb6630763a
