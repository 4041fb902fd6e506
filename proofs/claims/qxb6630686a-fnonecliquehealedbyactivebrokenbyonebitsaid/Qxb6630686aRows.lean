/-
  No cell of these rows narrows 'for every input' (looked for: loops, veiled, ifaces, maps, wideKeys, modest, calm, conditions, laid).
  DERIVED. THE GIVEN ROWS OF THIS SEAT. 2 by the template 'for every input the law returns true; each argument reads behind the call as it read before'; 0 by the template 'total and deterministic' (their statements: Qxb6630686aTotals.lean).
  GIVEN WITH THE SEED: the statements are not yours to turn. If you find one false, say at which input.
  Laid BY PROGRAM, IN A SANDBOX (cutbox-rows.mjs): the forced cells as the released guide's own fill.sh prints them over the translation 04f304c687736c2d… (all of the seat's roots in one cut). By AI agents, Wed Nov 11 2026. No macro, syntax, notation, axiom, sorry.
-/
import Derived.Test.Qxb6630686aChecked
import GoSem.Claim
import GoSem.ClaimJoined
import GoSem.ClaimMapViews
import Derived.JoinedTies
import Derived.KernelRfl
namespace Go.Proofs.Qxb6630686a
/- THE CELL 'sum', in the pinned program and in every row, IS THE sha256 OF THE DUMP (.gsa) THAT Qxb6630686aProg.lean LOADS. Nothing in Lean hashes anything: it is a label: what it is worth is what the hold of that sum in a sandbox is worth. -/
noncomputable def Try.pinned : Pinned := { name := "qxb6630686a", sum := "04f304c687736c2d4f8adeae9b84764238e0cc4008e2010e11d08f7bfdac8bfd", checked := Try.checked }
namespace Rows
def none {H : Type} : Left H := { results := [], args := [] }

/-- 'zzlaws_pkg_clique_b1.FnOneCliqueMatchesMembershipModel': WHATEVER THE INPUT: true; the input reads as it did. -/
def fnOneCliqueMatchesMembershipModelSpec : ChangeSpec := { name := "fnOneCliqueMatchesMembershipModel", fn := fun _ => fun
  | [d] => { results := [.lit (.bool true)], args := [d] }
  | _ => none }
def fnOneCliqueMatchesMembershipModelRow : OpenClaim := { program := "qxb6630686a", sum := "04f304c687736c2d4f8adeae9b84764238e0cc4008e2010e11d08f7bfdac8bfd", func := "example.com/roundkeeper/roundkeeper/zzlaws_pkg_clique_b1.FnOneCliqueMatchesMembershipModel", spec := "fnOneCliqueMatchesMembershipModel", apart := false }
def FnOneCliqueMatchesMembershipModelSaid : Prop := fnOneCliqueMatchesMembershipModelRow.holds Try.pinned (OpenSpec.ofChange fnOneCliqueMatchesMembershipModelSpec)

/-- ITS FALSE NEIGHBOUR: 'it returns false'. Refute it at one input. -/
def fnOneCliqueMatchesMembershipModelWrong : ChangeSpec := { name := "fnOneCliqueMatchesMembershipModel", fn := fun _ => fun
  | [d] => { results := [.lit (.bool false)], args := [d] }
  | _ => none }
def FnOneCliqueMatchesMembershipModelWrongFalsely : Prop := fnOneCliqueMatchesMembershipModelRow.holds Try.pinned (OpenSpec.ofChange fnOneCliqueMatchesMembershipModelWrong)

/-- 'zzlaws_pkg_clique_b1.FnOneCliqueHealedByActiveBrokenByOneBit': WHATEVER THE INPUT: true; the input reads as it did. -/
def fnOneCliqueHealedByActiveBrokenByOneBitSpec : ChangeSpec := { name := "fnOneCliqueHealedByActiveBrokenByOneBit", fn := fun _ => fun
  | [d1, d2, d3] => { results := [.lit (.bool true)], args := [d1, d2, d3] }
  | _ => none }
def fnOneCliqueHealedByActiveBrokenByOneBitRow : OpenClaim := { program := "qxb6630686a", sum := "04f304c687736c2d4f8adeae9b84764238e0cc4008e2010e11d08f7bfdac8bfd", func := "example.com/roundkeeper/roundkeeper/zzlaws_pkg_clique_b1.FnOneCliqueHealedByActiveBrokenByOneBit", spec := "fnOneCliqueHealedByActiveBrokenByOneBit", apart := false }
def FnOneCliqueHealedByActiveBrokenByOneBitSaid : Prop := fnOneCliqueHealedByActiveBrokenByOneBitRow.holds Try.pinned (OpenSpec.ofChange fnOneCliqueHealedByActiveBrokenByOneBitSpec)

/-- ITS FALSE NEIGHBOUR: 'it returns false'. Refute it at one input. -/
def fnOneCliqueHealedByActiveBrokenByOneBitWrong : ChangeSpec := { name := "fnOneCliqueHealedByActiveBrokenByOneBit", fn := fun _ => fun
  | [d1, d2, d3] => { results := [.lit (.bool false)], args := [d1, d2, d3] }
  | _ => none }
def FnOneCliqueHealedByActiveBrokenByOneBitWrongFalsely : Prop := fnOneCliqueHealedByActiveBrokenByOneBitRow.holds Try.pinned (OpenSpec.ofChange fnOneCliqueHealedByActiveBrokenByOneBitWrong)

end Rows
end Go.Proofs.Qxb6630686a
