/-
  No cell of these rows narrows 'for every input' (looked for: loops, veiled, ifaces, maps, wideKeys, modest, calm, conditions, laid).
  DERIVED. THE GIVEN ROWS OF THIS SEAT. 5 by the template 'for every input the law returns true; each argument reads behind the call as it read before'; 0 by the template 'total and deterministic' (their statements: Qxb6617112aTotals.lean).
  GIVEN WITH THE SEED: the statements are not yours to turn. If you find one false, say at which input.
  Laid BY PROGRAM, IN A SANDBOX (cutbox-rows.mjs): the forced cells as the released guide's own fill.sh prints them over the translation 7fe7dc9b841d1b9e… (all of the seat's roots in one cut). By AI agents, Wed Nov 11 2026. No macro, syntax, notation, axiom, sorry.
-/
import Derived.Test.Qxb6617112aChecked
import GoSem.Claim
import GoSem.ClaimJoined
import GoSem.ClaimMapViews
import Derived.JoinedTies
import Derived.KernelRfl
namespace Go.Proofs.Qxb6617112a
/- THE CELL 'sum', in the pinned program and in every row, IS THE sha256 OF THE DUMP (.gsa) THAT Qxb6617112aProg.lean LOADS. Nothing in Lean hashes anything: it is a label: what it is worth is what the hold of that sum in a sandbox is worth. -/
noncomputable def Try.pinned : Pinned := { name := "qxb6617112a", sum := "7fe7dc9b841d1b9e12bd57d37781bc8740187af2ab8a4b4e0ab881909a3eb578", checked := Try.checked }
namespace Rows
def none {H : Type} : Left H := { results := [], args := [] }

/-- 'zzlaws_policy_b1.FnHoldsAtComplementMirrorAndStrict': WHATEVER THE INPUT: true; the input reads as it did. -/
def fnHoldsAtComplementMirrorAndStrictSpec : ChangeSpec := { name := "fnHoldsAtComplementMirrorAndStrict", fn := fun _ => fun
  | [d1, d2, d3] => { results := [.lit (.bool true)], args := [d1, d2, d3] }
  | _ => none }
def fnHoldsAtComplementMirrorAndStrictRow : OpenClaim := { program := "qxb6617112a", sum := "7fe7dc9b841d1b9e12bd57d37781bc8740187af2ab8a4b4e0ab881909a3eb578", func := "example.com/guanlian/guanlian/zzlaws_policy_b1.FnHoldsAtComplementMirrorAndStrict", spec := "fnHoldsAtComplementMirrorAndStrict", apart := false }
def FnHoldsAtComplementMirrorAndStrictSaid : Prop := fnHoldsAtComplementMirrorAndStrictRow.holds Try.pinned (OpenSpec.ofChange fnHoldsAtComplementMirrorAndStrictSpec)

/-- ITS FALSE NEIGHBOUR: 'it returns false'. Refute it at one input. -/
def fnHoldsAtComplementMirrorAndStrictWrong : ChangeSpec := { name := "fnHoldsAtComplementMirrorAndStrict", fn := fun _ => fun
  | [d1, d2, d3] => { results := [.lit (.bool false)], args := [d1, d2, d3] }
  | _ => none }
def FnHoldsAtComplementMirrorAndStrictWrongFalsely : Prop := fnHoldsAtComplementMirrorAndStrictRow.holds Try.pinned (OpenSpec.ofChange fnHoldsAtComplementMirrorAndStrictWrong)

/-- 'zzlaws_policy_b1.FnInterestsOfSplitsAtAnyCut': WHATEVER THE INPUT: true; the input reads as it did. -/
def fnInterestsOfSplitsAtAnyCutSpec : ChangeSpec := { name := "fnInterestsOfSplitsAtAnyCut", fn := fun _ => fun
  | [d1, d2, d3] => { results := [.lit (.bool true)], args := [d1, d2, d3] }
  | _ => none }
def fnInterestsOfSplitsAtAnyCutRow : OpenClaim := { program := "qxb6617112a", sum := "7fe7dc9b841d1b9e12bd57d37781bc8740187af2ab8a4b4e0ab881909a3eb578", func := "example.com/guanlian/guanlian/zzlaws_policy_b1.FnInterestsOfSplitsAtAnyCut", spec := "fnInterestsOfSplitsAtAnyCut", apart := false }
def FnInterestsOfSplitsAtAnyCutSaid : Prop := fnInterestsOfSplitsAtAnyCutRow.holds Try.pinned (OpenSpec.ofChange fnInterestsOfSplitsAtAnyCutSpec)

/-- ITS FALSE NEIGHBOUR: 'it returns false'. Refute it at one input. -/
def fnInterestsOfSplitsAtAnyCutWrong : ChangeSpec := { name := "fnInterestsOfSplitsAtAnyCut", fn := fun _ => fun
  | [d1, d2, d3] => { results := [.lit (.bool false)], args := [d1, d2, d3] }
  | _ => none }
def FnInterestsOfSplitsAtAnyCutWrongFalsely : Prop := fnInterestsOfSplitsAtAnyCutRow.holds Try.pinned (OpenSpec.ofChange fnInterestsOfSplitsAtAnyCutWrong)

/-- 'zzlaws_policy_b1.FnAbstentionsMatchTheirClauses': WHATEVER THE INPUT: true; the input reads as it did. -/
def fnAbstentionsMatchTheirClausesSpec : ChangeSpec := { name := "fnAbstentionsMatchTheirClauses", fn := fun _ => fun
  | [d1, d2, d3, d4] => { results := [.lit (.bool true)], args := [d1, d2, d3, d4] }
  | _ => none }
def fnAbstentionsMatchTheirClausesRow : OpenClaim := { program := "qxb6617112a", sum := "7fe7dc9b841d1b9e12bd57d37781bc8740187af2ab8a4b4e0ab881909a3eb578", func := "example.com/guanlian/guanlian/zzlaws_policy_b1.FnAbstentionsMatchTheirClauses", spec := "fnAbstentionsMatchTheirClauses", apart := false }
def FnAbstentionsMatchTheirClausesSaid : Prop := fnAbstentionsMatchTheirClausesRow.holds Try.pinned (OpenSpec.ofChange fnAbstentionsMatchTheirClausesSpec)

/-- ITS FALSE NEIGHBOUR: 'it returns false'. Refute it at one input. -/
def fnAbstentionsMatchTheirClausesWrong : ChangeSpec := { name := "fnAbstentionsMatchTheirClauses", fn := fun _ => fun
  | [d1, d2, d3, d4] => { results := [.lit (.bool false)], args := [d1, d2, d3, d4] }
  | _ => none }
def FnAbstentionsMatchTheirClausesWrongFalsely : Prop := fnAbstentionsMatchTheirClausesRow.holds Try.pinned (OpenSpec.ofChange fnAbstentionsMatchTheirClausesWrong)

/-- 'zzlaws_policy_b1.FnAbstentionsSplitOverParties': WHATEVER THE INPUT: true; the input reads as it did. -/
def fnAbstentionsSplitOverPartiesSpec : ChangeSpec := { name := "fnAbstentionsSplitOverParties", fn := fun _ => fun
  | [d1, d2, d3, d4, d5] => { results := [.lit (.bool true)], args := [d1, d2, d3, d4, d5] }
  | _ => none }
def fnAbstentionsSplitOverPartiesRow : OpenClaim := { program := "qxb6617112a", sum := "7fe7dc9b841d1b9e12bd57d37781bc8740187af2ab8a4b4e0ab881909a3eb578", func := "example.com/guanlian/guanlian/zzlaws_policy_b1.FnAbstentionsSplitOverParties", spec := "fnAbstentionsSplitOverParties", apart := false }
def FnAbstentionsSplitOverPartiesSaid : Prop := fnAbstentionsSplitOverPartiesRow.holds Try.pinned (OpenSpec.ofChange fnAbstentionsSplitOverPartiesSpec)

/-- ITS FALSE NEIGHBOUR: 'it returns false'. Refute it at one input. -/
def fnAbstentionsSplitOverPartiesWrong : ChangeSpec := { name := "fnAbstentionsSplitOverParties", fn := fun _ => fun
  | [d1, d2, d3, d4, d5] => { results := [.lit (.bool false)], args := [d1, d2, d3, d4, d5] }
  | _ => none }
def FnAbstentionsSplitOverPartiesWrongFalsely : Prop := fnAbstentionsSplitOverPartiesRow.holds Try.pinned (OpenSpec.ofChange fnAbstentionsSplitOverPartiesWrong)

/-- 'zzlaws_policy_b1.FnAbstentionsOfAPartyWithEveryInterest': WHATEVER THE INPUT: true; the input reads as it did. -/
def fnAbstentionsOfAPartyWithEveryInterestSpec : ChangeSpec := { name := "fnAbstentionsOfAPartyWithEveryInterest", fn := fun _ => fun
  | [d1, d2, d3] => { results := [.lit (.bool true)], args := [d1, d2, d3] }
  | _ => none }
def fnAbstentionsOfAPartyWithEveryInterestRow : OpenClaim := { program := "qxb6617112a", sum := "7fe7dc9b841d1b9e12bd57d37781bc8740187af2ab8a4b4e0ab881909a3eb578", func := "example.com/guanlian/guanlian/zzlaws_policy_b1.FnAbstentionsOfAPartyWithEveryInterest", spec := "fnAbstentionsOfAPartyWithEveryInterest", apart := false }
def FnAbstentionsOfAPartyWithEveryInterestSaid : Prop := fnAbstentionsOfAPartyWithEveryInterestRow.holds Try.pinned (OpenSpec.ofChange fnAbstentionsOfAPartyWithEveryInterestSpec)

/-- ITS FALSE NEIGHBOUR: 'it returns false'. Refute it at one input. -/
def fnAbstentionsOfAPartyWithEveryInterestWrong : ChangeSpec := { name := "fnAbstentionsOfAPartyWithEveryInterest", fn := fun _ => fun
  | [d1, d2, d3] => { results := [.lit (.bool false)], args := [d1, d2, d3] }
  | _ => none }
def FnAbstentionsOfAPartyWithEveryInterestWrongFalsely : Prop := fnAbstentionsOfAPartyWithEveryInterestRow.holds Try.pinned (OpenSpec.ofChange fnAbstentionsOfAPartyWithEveryInterestWrong)

end Rows
end Go.Proofs.Qxb6617112a
