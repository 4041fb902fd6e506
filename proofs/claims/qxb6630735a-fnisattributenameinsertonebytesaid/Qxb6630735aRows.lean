/-
  No cell of these rows narrows 'for every input' (looked for: loops, veiled, ifaces, maps, wideKeys, modest, calm, conditions, laid).
  DERIVED. THE GIVEN ROWS OF THIS SEAT. 2 by the template 'for every input the law returns true; each argument reads behind the call as it read before'; 0 by the template 'total and deterministic' (their statements: Qxb6630735aTotals.lean).
  GIVEN WITH THE SEED: the statements are not yours to turn. If you find one false, say at which input.
  Laid BY PROGRAM, IN A SANDBOX (cutbox-rows.mjs): the forced cells as the released guide's own fill.sh prints them over the translation 1030ee93c90ae269… (all of the seat's roots in one cut). By AI agents, Wed Nov 11 2026. No macro, syntax, notation, axiom, sorry.
-/
import Derived.Test.Qxb6630735aChecked
import GoSem.Claim
import GoSem.ClaimJoined
import GoSem.ClaimMapViews
import Derived.JoinedTies
import Derived.KernelRfl
namespace Go.Proofs.Qxb6630735a
/- THE CELL 'sum', in the pinned program and in every row, IS THE sha256 OF THE DUMP (.gsa) THAT Qxb6630735aProg.lean LOADS. Nothing in Lean hashes anything: it is a label: what it is worth is what the hold of that sum in a sandbox is worth. -/
noncomputable def Try.pinned : Pinned := { name := "qxb6630735a", sum := "1030ee93c90ae269e89728820896706802c5e1b6e9f72f0a0797322148022b90", checked := Try.checked }
namespace Rows
def none {H : Type} : Left H := { results := [], args := [] }

/-- 'zzlaws_pkg_event_b1.FnIsAttributeNameSplitAtAnyCut': WHATEVER THE INPUT: true; the input reads as it did. -/
def fnIsAttributeNameSplitAtAnyCutSpec : ChangeSpec := { name := "fnIsAttributeNameSplitAtAnyCut", fn := fun _ => fun
  | [d1, d2] => { results := [.lit (.bool true)], args := [d1, d2] }
  | _ => none }
def fnIsAttributeNameSplitAtAnyCutRow : OpenClaim := { program := "qxb6630735a", sum := "1030ee93c90ae269e89728820896706802c5e1b6e9f72f0a0797322148022b90", func := "example.com/threadkeeper/threadkeeper/zzlaws_pkg_event_b1.FnIsAttributeNameSplitAtAnyCut", spec := "fnIsAttributeNameSplitAtAnyCut", apart := false }
def FnIsAttributeNameSplitAtAnyCutSaid : Prop := fnIsAttributeNameSplitAtAnyCutRow.holds Try.pinned (OpenSpec.ofChange fnIsAttributeNameSplitAtAnyCutSpec)

/-- ITS FALSE NEIGHBOUR: 'it returns false'. Refute it at one input. -/
def fnIsAttributeNameSplitAtAnyCutWrong : ChangeSpec := { name := "fnIsAttributeNameSplitAtAnyCut", fn := fun _ => fun
  | [d1, d2] => { results := [.lit (.bool false)], args := [d1, d2] }
  | _ => none }
def FnIsAttributeNameSplitAtAnyCutWrongFalsely : Prop := fnIsAttributeNameSplitAtAnyCutRow.holds Try.pinned (OpenSpec.ofChange fnIsAttributeNameSplitAtAnyCutWrong)

/-- 'zzlaws_pkg_event_b1.FnIsAttributeNameInsertOneByte': WHATEVER THE INPUT: true; the input reads as it did. -/
def fnIsAttributeNameInsertOneByteSpec : ChangeSpec := { name := "fnIsAttributeNameInsertOneByte", fn := fun _ => fun
  | [d1, d2, d3] => { results := [.lit (.bool true)], args := [d1, d2, d3] }
  | _ => none }
def fnIsAttributeNameInsertOneByteRow : OpenClaim := { program := "qxb6630735a", sum := "1030ee93c90ae269e89728820896706802c5e1b6e9f72f0a0797322148022b90", func := "example.com/threadkeeper/threadkeeper/zzlaws_pkg_event_b1.FnIsAttributeNameInsertOneByte", spec := "fnIsAttributeNameInsertOneByte", apart := false }
def FnIsAttributeNameInsertOneByteSaid : Prop := fnIsAttributeNameInsertOneByteRow.holds Try.pinned (OpenSpec.ofChange fnIsAttributeNameInsertOneByteSpec)

/-- ITS FALSE NEIGHBOUR: 'it returns false'. Refute it at one input. -/
def fnIsAttributeNameInsertOneByteWrong : ChangeSpec := { name := "fnIsAttributeNameInsertOneByte", fn := fun _ => fun
  | [d1, d2, d3] => { results := [.lit (.bool false)], args := [d1, d2, d3] }
  | _ => none }
def FnIsAttributeNameInsertOneByteWrongFalsely : Prop := fnIsAttributeNameInsertOneByteRow.holds Try.pinned (OpenSpec.ofChange fnIsAttributeNameInsertOneByteWrong)

end Rows
end Go.Proofs.Qxb6630735a
