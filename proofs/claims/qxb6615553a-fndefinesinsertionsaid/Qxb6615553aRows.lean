/-
  No cell of these rows narrows 'for every input' (looked for: loops, veiled, ifaces, maps, wideKeys, modest, calm, conditions, laid).
  DERIVED. THE GIVEN ROWS OF THIS SEAT. 1 by the template 'for every input the law returns true; each argument reads behind the call as it read before'; 0 by the template 'total and deterministic' (their statements: Qxb6615553aTotals.lean).
  GIVEN WITH THE SEED: the statements are not yours to turn. If you find one false, say at which input.
  Laid BY PROGRAM, IN A SANDBOX (cutbox-rows.mjs): the forced cells as the released guide's own fill.sh prints them over the translation f5bed4f6976e0677… (all of the seat's roots in one cut). By AI agents, Wed Nov 11 2026. No macro, syntax, notation, axiom, sorry.
-/
import Derived.Test.Qxb6615553aChecked
import GoSem.Claim
import GoSem.ClaimJoined
import GoSem.ClaimMapViews
import Derived.JoinedTies
import Derived.KernelRfl
namespace Go.Proofs.Qxb6615553a
/- THE CELL 'sum', in the pinned program and in every row, IS THE sha256 OF THE DUMP (.gsa) THAT Qxb6615553aProg.lean LOADS. Nothing in Lean hashes anything: it is a label: what it is worth is what the hold of that sum in a sandbox is worth. -/
noncomputable def Try.pinned : Pinned := { name := "qxb6615553a", sum := "f5bed4f6976e0677afc3a3f771da85f71b6aca07623870647709ff419ce24a81", checked := Try.checked }
namespace Rows
def none {H : Type} : Left H := { results := [], args := [] }

/-- 'zzlaws_internal_ruleset_b1.FnDefinesInsertion': WHATEVER THE INPUT: true; the input reads as it did. -/
def fnDefinesInsertionSpec : ChangeSpec := { name := "fnDefinesInsertion", fn := fun _ => fun
  | [d1, d2, d3, d4, d5] => { results := [.lit (.bool true)], args := [d1, d2, d3, d4, d5] }
  | _ => none }
def fnDefinesInsertionRow : OpenClaim := { program := "qxb6615553a", sum := "f5bed4f6976e0677afc3a3f771da85f71b6aca07623870647709ff419ce24a81", func := "example.com/portcullis/portcullis/zzlaws_internal_ruleset_b1.FnDefinesInsertion", spec := "fnDefinesInsertion", apart := false }
def FnDefinesInsertionSaid : Prop := fnDefinesInsertionRow.holds Try.pinned (OpenSpec.ofChange fnDefinesInsertionSpec)

/-- ITS FALSE NEIGHBOUR: 'it returns false'. Refute it at one input. -/
def fnDefinesInsertionWrong : ChangeSpec := { name := "fnDefinesInsertion", fn := fun _ => fun
  | [d1, d2, d3, d4, d5] => { results := [.lit (.bool false)], args := [d1, d2, d3, d4, d5] }
  | _ => none }
def FnDefinesInsertionWrongFalsely : Prop := fnDefinesInsertionRow.holds Try.pinned (OpenSpec.ofChange fnDefinesInsertionWrong)

end Rows
end Go.Proofs.Qxb6615553a
