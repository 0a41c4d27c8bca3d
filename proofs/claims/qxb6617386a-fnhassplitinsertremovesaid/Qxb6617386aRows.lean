/-
  No cell of these rows narrows 'for every input' (looked for: loops, veiled, ifaces, maps, wideKeys, modest, calm, conditions, laid).
  DERIVED. THE GIVEN ROWS OF THIS SEAT. 2 by the template 'for every input the law returns true; each argument reads behind the call as it read before'; 0 by the template 'total and deterministic' (their statements: Qxb6617386aTotals.lean).
  GIVEN WITH THE SEED: the statements are not yours to turn. If you find one false, say at which input.
  Laid BY PROGRAM, IN A SANDBOX (cutbox-rows.mjs): the forced cells as the released guide's own fill.sh prints them over the translation 5426284601992041… (all of the seat's roots in one cut). By AI agents, Wed Nov 11 2026. No macro, syntax, notation, axiom, sorry.
-/
import Derived.Test.Qxb6617386aChecked
import GoSem.Claim
import GoSem.ClaimJoined
import GoSem.ClaimMapViews
import Derived.JoinedTies
import Derived.KernelRfl
namespace Go.Proofs.Qxb6617386a
/- THE CELL 'sum', in the pinned program and in every row, IS THE sha256 OF THE DUMP (.gsa) THAT Qxb6617386aProg.lean LOADS. Nothing in Lean hashes anything: it is a label: what it is worth is what the hold of that sum in a sandbox is worth. -/
noncomputable def Try.pinned : Pinned := { name := "qxb6617386a", sum := "5426284601992041c5fd95e3f7a9a125dd530ac0acef86fe5cbfe21f333cc1b9", checked := Try.checked }
namespace Rows
def none {H : Type} : Left H := { results := [], args := [] }

/-- 'zzlaws_pkg_proctree_b1.FnHasSplitInsertRemove': WHATEVER THE INPUT: true; the input reads as it did. -/
def fnHasSplitInsertRemoveSpec : ChangeSpec := { name := "fnHasSplitInsertRemove", fn := fun _ => fun
  | [d1, d2, d3] => { results := [.lit (.bool true)], args := [d1, d2, d3] }
  | _ => none }
def fnHasSplitInsertRemoveRow : OpenClaim := { program := "qxb6617386a", sum := "5426284601992041c5fd95e3f7a9a125dd530ac0acef86fe5cbfe21f333cc1b9", func := "example.com/keelward/keelward/zzlaws_pkg_proctree_b1.FnHasSplitInsertRemove", spec := "fnHasSplitInsertRemove", apart := false }
def FnHasSplitInsertRemoveSaid : Prop := fnHasSplitInsertRemoveRow.holds Try.pinned (OpenSpec.ofChange fnHasSplitInsertRemoveSpec)

/-- ITS FALSE NEIGHBOUR: 'it returns false'. Refute it at one input. -/
def fnHasSplitInsertRemoveWrong : ChangeSpec := { name := "fnHasSplitInsertRemove", fn := fun _ => fun
  | [d1, d2, d3] => { results := [.lit (.bool false)], args := [d1, d2, d3] }
  | _ => none }
def FnHasSplitInsertRemoveWrongFalsely : Prop := fnHasSplitInsertRemoveRow.holds Try.pinned (OpenSpec.ofChange fnHasSplitInsertRemoveWrong)

/-- 'zzlaws_pkg_proctree_b1.FnHasOrderFreeAndMember': WHATEVER THE INPUT: true; the input reads as it did. -/
def fnHasOrderFreeAndMemberSpec : ChangeSpec := { name := "fnHasOrderFreeAndMember", fn := fun _ => fun
  | [d1, d2, d3] => { results := [.lit (.bool true)], args := [d1, d2, d3] }
  | _ => none }
def fnHasOrderFreeAndMemberRow : OpenClaim := { program := "qxb6617386a", sum := "5426284601992041c5fd95e3f7a9a125dd530ac0acef86fe5cbfe21f333cc1b9", func := "example.com/keelward/keelward/zzlaws_pkg_proctree_b1.FnHasOrderFreeAndMember", spec := "fnHasOrderFreeAndMember", apart := false }
def FnHasOrderFreeAndMemberSaid : Prop := fnHasOrderFreeAndMemberRow.holds Try.pinned (OpenSpec.ofChange fnHasOrderFreeAndMemberSpec)

/-- ITS FALSE NEIGHBOUR: 'it returns false'. Refute it at one input. -/
def fnHasOrderFreeAndMemberWrong : ChangeSpec := { name := "fnHasOrderFreeAndMember", fn := fun _ => fun
  | [d1, d2, d3] => { results := [.lit (.bool false)], args := [d1, d2, d3] }
  | _ => none }
def FnHasOrderFreeAndMemberWrongFalsely : Prop := fnHasOrderFreeAndMemberRow.holds Try.pinned (OpenSpec.ofChange fnHasOrderFreeAndMemberWrong)

end Rows
end Go.Proofs.Qxb6617386a
