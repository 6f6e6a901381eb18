/-
  NARROWER THAN 'FOR EVERY INPUT', by the rows' own cells (each row's printed sentence says how): FnKindOfAfterScriptOfSends: maps, wideKeys.
  DERIVED. THE GIVEN ROWS OF THIS SEAT. 6 by the template 'for every input the law returns true; each argument reads behind the call as it read before'; 0 by the template 'total and deterministic' (their statements: Qxb6615769aTotals.lean).
  GIVEN WITH THE SEED: the statements are not yours to turn. If you find one false, say at which input.
  Laid BY PROGRAM, IN A SANDBOX (cutbox-rows.mjs): the forced cells as the released guide's own fill.sh prints them over the translation e131530aa79fa125… (all of the seat's roots in one cut). By AI agents, Wed Nov 11 2026. No macro, syntax, notation, axiom, sorry.
-/
import Derived.Test.Qxb6615769aChecked
import GoSem.Claim
import GoSem.ClaimJoined
import GoSem.ClaimMapViews
import Derived.JoinedTies
import Derived.KernelRfl
namespace Go.Proofs.Qxb6615769a
/- THE CELL 'sum', in the pinned program and in every row, IS THE sha256 OF THE DUMP (.gsa) THAT Qxb6615769aProg.lean LOADS. Nothing in Lean hashes anything: it is a label: what it is worth is what the hold of that sum in a sandbox is worth. -/
noncomputable def Try.pinned : Pinned := { name := "qxb6615769a", sum := "e131530aa79fa125858f8af5f4fe7370608d3d1996d0d3631a682e08fd2bb391", checked := Try.checked }
namespace Rows
def none {H : Type} : Left H := { results := [], args := [] }

/-- 'zzlaws_internal_sim_b1.FnUnorderedIsSortedPairEitherOrder': WHATEVER THE INPUT: true; the input reads as it did. -/
def fnUnorderedIsSortedPairEitherOrderSpec : ChangeSpec := { name := "fnUnorderedIsSortedPairEitherOrder", fn := fun _ => fun
  | [d1, d2] => { results := [.lit (.bool true)], args := [d1, d2] }
  | _ => none }
def fnUnorderedIsSortedPairEitherOrderRow : OpenClaim := { program := "qxb6615769a", sum := "e131530aa79fa125858f8af5f4fe7370608d3d1996d0d3631a682e08fd2bb391", func := "example.com/flatwire/flatwire/zzlaws_internal_sim_b1.FnUnorderedIsSortedPairEitherOrder", spec := "fnUnorderedIsSortedPairEitherOrder", plainKeys := false, apart := false }
def FnUnorderedIsSortedPairEitherOrderSaid : Prop := fnUnorderedIsSortedPairEitherOrderRow.holds Try.pinned (OpenSpec.ofChange fnUnorderedIsSortedPairEitherOrderSpec)

/-- ITS FALSE NEIGHBOUR: 'it returns false'. Refute it at one input. -/
def fnUnorderedIsSortedPairEitherOrderWrong : ChangeSpec := { name := "fnUnorderedIsSortedPairEitherOrder", fn := fun _ => fun
  | [d1, d2] => { results := [.lit (.bool false)], args := [d1, d2] }
  | _ => none }
def FnUnorderedIsSortedPairEitherOrderWrongFalsely : Prop := fnUnorderedIsSortedPairEitherOrderRow.holds Try.pinned (OpenSpec.ofChange fnUnorderedIsSortedPairEitherOrderWrong)

/-- 'zzlaws_internal_sim_b1.FnUnorderedKeyIdentifiesThePair': WHATEVER THE INPUT: true; the input reads as it did. -/
def fnUnorderedKeyIdentifiesThePairSpec : ChangeSpec := { name := "fnUnorderedKeyIdentifiesThePair", fn := fun _ => fun
  | [d1, d2, d3, d4] => { results := [.lit (.bool true)], args := [d1, d2, d3, d4] }
  | _ => none }
def fnUnorderedKeyIdentifiesThePairRow : OpenClaim := { program := "qxb6615769a", sum := "e131530aa79fa125858f8af5f4fe7370608d3d1996d0d3631a682e08fd2bb391", func := "example.com/flatwire/flatwire/zzlaws_internal_sim_b1.FnUnorderedKeyIdentifiesThePair", spec := "fnUnorderedKeyIdentifiesThePair", plainKeys := false, apart := false }
def FnUnorderedKeyIdentifiesThePairSaid : Prop := fnUnorderedKeyIdentifiesThePairRow.holds Try.pinned (OpenSpec.ofChange fnUnorderedKeyIdentifiesThePairSpec)

/-- ITS FALSE NEIGHBOUR: 'it returns false'. Refute it at one input. -/
def fnUnorderedKeyIdentifiesThePairWrong : ChangeSpec := { name := "fnUnorderedKeyIdentifiesThePair", fn := fun _ => fun
  | [d1, d2, d3, d4] => { results := [.lit (.bool false)], args := [d1, d2, d3, d4] }
  | _ => none }
def FnUnorderedKeyIdentifiesThePairWrongFalsely : Prop := fnUnorderedKeyIdentifiesThePairRow.holds Try.pinned (OpenSpec.ofChange fnUnorderedKeyIdentifiesThePairWrong)

/-- 'zzlaws_internal_sim_b1.FnKindOfAfterScriptOfSends': WHATEVER THE INPUT: true; the input reads as it did. -/
def fnKindOfAfterScriptOfSendsSpec : ChangeSpec := { name := "fnKindOfAfterScriptOfSends", fn := fun _ => fun
  | [d1, d2, d3, d4] => { results := [.lit (.bool true)], args := [d1, d2, d3, d4] }
  | _ => none }
def fnKindOfAfterScriptOfSendsRow : OpenClaim := { program := "qxb6615769a", sum := "e131530aa79fa125858f8af5f4fe7370608d3d1996d0d3631a682e08fd2bb391", func := "example.com/flatwire/flatwire/zzlaws_internal_sim_b1.FnKindOfAfterScriptOfSends", spec := "fnKindOfAfterScriptOfSends", maps := true, wideKeys := true, plainKeys := false, apart := false }
def FnKindOfAfterScriptOfSendsSaid : Prop := fnKindOfAfterScriptOfSendsRow.holds Try.pinned (OpenSpec.ofChange fnKindOfAfterScriptOfSendsSpec)

/-- ITS FALSE NEIGHBOUR: 'it returns false'. Refute it at one input. -/
def fnKindOfAfterScriptOfSendsWrong : ChangeSpec := { name := "fnKindOfAfterScriptOfSends", fn := fun _ => fun
  | [d1, d2, d3, d4] => { results := [.lit (.bool false)], args := [d1, d2, d3, d4] }
  | _ => none }
def FnKindOfAfterScriptOfSendsWrongFalsely : Prop := fnKindOfAfterScriptOfSendsRow.holds Try.pinned (OpenSpec.ofChange fnKindOfAfterScriptOfSendsWrong)

/-- 'zzlaws_internal_sim_b1.FnKindOfUnknownExactlyAtFirstExchange': WHATEVER THE INPUT: true; the input reads as it did. -/
def fnKindOfUnknownExactlyAtFirstExchangeSpec : ChangeSpec := { name := "fnKindOfUnknownExactlyAtFirstExchange", fn := fun _ => fun
  | [d] => { results := [.lit (.bool true)], args := [d] }
  | _ => none }
def fnKindOfUnknownExactlyAtFirstExchangeRow : OpenClaim := { program := "qxb6615769a", sum := "e131530aa79fa125858f8af5f4fe7370608d3d1996d0d3631a682e08fd2bb391", func := "example.com/flatwire/flatwire/zzlaws_internal_sim_b1.FnKindOfUnknownExactlyAtFirstExchange", spec := "fnKindOfUnknownExactlyAtFirstExchange", plainKeys := false, apart := false }
def FnKindOfUnknownExactlyAtFirstExchangeSaid : Prop := fnKindOfUnknownExactlyAtFirstExchangeRow.holds Try.pinned (OpenSpec.ofChange fnKindOfUnknownExactlyAtFirstExchangeSpec)

/-- ITS FALSE NEIGHBOUR: 'it returns false'. Refute it at one input. -/
def fnKindOfUnknownExactlyAtFirstExchangeWrong : ChangeSpec := { name := "fnKindOfUnknownExactlyAtFirstExchange", fn := fun _ => fun
  | [d] => { results := [.lit (.bool false)], args := [d] }
  | _ => none }
def FnKindOfUnknownExactlyAtFirstExchangeWrongFalsely : Prop := fnKindOfUnknownExactlyAtFirstExchangeRow.holds Try.pinned (OpenSpec.ofChange fnKindOfUnknownExactlyAtFirstExchangeWrong)

/-- 'zzlaws_internal_sim_b1.FnNoteSentHoldsExactlyTheUnorderedPairs': WHATEVER THE INPUT: true; the input reads as it did. -/
def fnNoteSentHoldsExactlyTheUnorderedPairsSpec : ChangeSpec := { name := "fnNoteSentHoldsExactlyTheUnorderedPairs", fn := fun _ => fun
  | [d] => { results := [.lit (.bool true)], args := [d] }
  | _ => none }
def fnNoteSentHoldsExactlyTheUnorderedPairsRow : OpenClaim := { program := "qxb6615769a", sum := "e131530aa79fa125858f8af5f4fe7370608d3d1996d0d3631a682e08fd2bb391", func := "example.com/flatwire/flatwire/zzlaws_internal_sim_b1.FnNoteSentHoldsExactlyTheUnorderedPairs", spec := "fnNoteSentHoldsExactlyTheUnorderedPairs", plainKeys := false, apart := false }
def FnNoteSentHoldsExactlyTheUnorderedPairsSaid : Prop := fnNoteSentHoldsExactlyTheUnorderedPairsRow.holds Try.pinned (OpenSpec.ofChange fnNoteSentHoldsExactlyTheUnorderedPairsSpec)

/-- ITS FALSE NEIGHBOUR: 'it returns false'. Refute it at one input. -/
def fnNoteSentHoldsExactlyTheUnorderedPairsWrong : ChangeSpec := { name := "fnNoteSentHoldsExactlyTheUnorderedPairs", fn := fun _ => fun
  | [d] => { results := [.lit (.bool false)], args := [d] }
  | _ => none }
def FnNoteSentHoldsExactlyTheUnorderedPairsWrongFalsely : Prop := fnNoteSentHoldsExactlyTheUnorderedPairsRow.holds Try.pinned (OpenSpec.ofChange fnNoteSentHoldsExactlyTheUnorderedPairsWrong)

/-- 'zzlaws_internal_sim_b1.FnNoteSentOrderAndDirectionFree': WHATEVER THE INPUT: true; the input reads as it did. -/
def fnNoteSentOrderAndDirectionFreeSpec : ChangeSpec := { name := "fnNoteSentOrderAndDirectionFree", fn := fun _ => fun
  | [d1, d2] => { results := [.lit (.bool true)], args := [d1, d2] }
  | _ => none }
def fnNoteSentOrderAndDirectionFreeRow : OpenClaim := { program := "qxb6615769a", sum := "e131530aa79fa125858f8af5f4fe7370608d3d1996d0d3631a682e08fd2bb391", func := "example.com/flatwire/flatwire/zzlaws_internal_sim_b1.FnNoteSentOrderAndDirectionFree", spec := "fnNoteSentOrderAndDirectionFree", plainKeys := false, apart := false }
def FnNoteSentOrderAndDirectionFreeSaid : Prop := fnNoteSentOrderAndDirectionFreeRow.holds Try.pinned (OpenSpec.ofChange fnNoteSentOrderAndDirectionFreeSpec)

/-- ITS FALSE NEIGHBOUR: 'it returns false'. Refute it at one input. -/
def fnNoteSentOrderAndDirectionFreeWrong : ChangeSpec := { name := "fnNoteSentOrderAndDirectionFree", fn := fun _ => fun
  | [d1, d2] => { results := [.lit (.bool false)], args := [d1, d2] }
  | _ => none }
def FnNoteSentOrderAndDirectionFreeWrongFalsely : Prop := fnNoteSentOrderAndDirectionFreeRow.holds Try.pinned (OpenSpec.ofChange fnNoteSentOrderAndDirectionFreeWrong)

end Rows
end Go.Proofs.Qxb6615769a
