/-
  No cell of these rows narrows 'for every input' (looked for: loops, veiled, ifaces, maps, wideKeys, modest, calm, conditions, laid).
  DERIVED. THE GIVEN ROWS OF THIS SEAT. 5 by the template 'for every input the law returns true; each argument reads behind the call as it read before'; 0 by the template 'total and deterministic' (their statements: Qxb6617139aTotals.lean).
  GIVEN WITH THE SEED: the statements are not yours to turn. If you find one false, say at which input.
  Laid BY PROGRAM, IN A SANDBOX (cutbox-rows.mjs): the forced cells as the released guide's own fill.sh prints them over the translation ae4f0511dfb938ec… (all of the seat's roots in one cut). By AI agents, Wed Nov 11 2026. No macro, syntax, notation, axiom, sorry.
-/
import Derived.Test.Qxb6617139aChecked
import GoSem.Claim
import GoSem.ClaimJoined
import GoSem.ClaimMapViews
import Derived.JoinedTies
import Derived.KernelRfl
namespace Go.Proofs.Qxb6617139a
/- THE CELL 'sum', in the pinned program and in every row, IS THE sha256 OF THE DUMP (.gsa) THAT Qxb6617139aProg.lean LOADS. Nothing in Lean hashes anything: it is a label: what it is worth is what the hold of that sum in a sandbox is worth. -/
noncomputable def Try.pinned : Pinned := { name := "qxb6617139a", sum := "ae4f0511dfb938ec592328dc7b2d56d43bade2983ffad64e775178fa7cb35af7", checked := Try.checked }
namespace Rows
def none {H : Type} : Left H := { results := [], args := [] }

/-- 'zzlaws_root_b1.FnCompareJoinsAtAnyCut': WHATEVER THE INPUT: true; the input reads as it did. -/
def fnCompareJoinsAtAnyCutSpec : ChangeSpec := { name := "fnCompareJoinsAtAnyCut", fn := fun _ => fun
  | [d1, d2, d3] => { results := [.lit (.bool true)], args := [d1, d2, d3] }
  | _ => none }
def fnCompareJoinsAtAnyCutRow : OpenClaim := { program := "qxb6617139a", sum := "ae4f0511dfb938ec592328dc7b2d56d43bade2983ffad64e775178fa7cb35af7", func := "example.com/happenstance/happenstance/zzlaws_root_b1.FnCompareJoinsAtAnyCut", spec := "fnCompareJoinsAtAnyCut", apart := false }
def FnCompareJoinsAtAnyCutSaid : Prop := fnCompareJoinsAtAnyCutRow.holds Try.pinned (OpenSpec.ofChange fnCompareJoinsAtAnyCutSpec)

/-- ITS FALSE NEIGHBOUR: 'it returns false'. Refute it at one input. -/
def fnCompareJoinsAtAnyCutWrong : ChangeSpec := { name := "fnCompareJoinsAtAnyCut", fn := fun _ => fun
  | [d1, d2, d3] => { results := [.lit (.bool false)], args := [d1, d2, d3] }
  | _ => none }
def FnCompareJoinsAtAnyCutWrongFalsely : Prop := fnCompareJoinsAtAnyCutRow.holds Try.pinned (OpenSpec.ofChange fnCompareJoinsAtAnyCutWrong)

/-- 'zzlaws_root_b1.FnOrderOfFlipsAndSwap': WHATEVER THE INPUT: true; the input reads as it did. -/
def fnOrderOfFlipsAndSwapSpec : ChangeSpec := { name := "fnOrderOfFlipsAndSwap", fn := fun _ => fun
  | [d1, d2] => { results := [.lit (.bool true)], args := [d1, d2] }
  | _ => none }
def fnOrderOfFlipsAndSwapRow : OpenClaim := { program := "qxb6617139a", sum := "ae4f0511dfb938ec592328dc7b2d56d43bade2983ffad64e775178fa7cb35af7", func := "example.com/happenstance/happenstance/zzlaws_root_b1.FnOrderOfFlipsAndSwap", spec := "fnOrderOfFlipsAndSwap", apart := false }
def FnOrderOfFlipsAndSwapSaid : Prop := fnOrderOfFlipsAndSwapRow.holds Try.pinned (OpenSpec.ofChange fnOrderOfFlipsAndSwapSpec)

/-- ITS FALSE NEIGHBOUR: 'it returns false'. Refute it at one input. -/
def fnOrderOfFlipsAndSwapWrong : ChangeSpec := { name := "fnOrderOfFlipsAndSwap", fn := fun _ => fun
  | [d1, d2] => { results := [.lit (.bool false)], args := [d1, d2] }
  | _ => none }
def FnOrderOfFlipsAndSwapWrongFalsely : Prop := fnOrderOfFlipsAndSwapRow.holds Try.pinned (OpenSpec.ofChange fnOrderOfFlipsAndSwapWrong)

/-- 'zzlaws_root_b1.FnNewNameListSplitsAfterAnyNameEnd': WHATEVER THE INPUT: true; the input reads as it did. -/
def fnNewNameListSplitsAfterAnyNameEndSpec : ChangeSpec := { name := "fnNewNameListSplitsAfterAnyNameEnd", fn := fun _ => fun
  | [d1, d2] => { results := [.lit (.bool true)], args := [d1, d2] }
  | _ => none }
def fnNewNameListSplitsAfterAnyNameEndRow : OpenClaim := { program := "qxb6617139a", sum := "ae4f0511dfb938ec592328dc7b2d56d43bade2983ffad64e775178fa7cb35af7", func := "example.com/happenstance/happenstance/zzlaws_root_b1.FnNewNameListSplitsAfterAnyNameEnd", spec := "fnNewNameListSplitsAfterAnyNameEnd", inPlace := ["internal/bytealg.CountString", "internal/bytealg.IndexByteString", "internal/bytealg.IndexString"], named := ["internal/bytealg.MaxLen"], apart := false }
def FnNewNameListSplitsAfterAnyNameEndSaid : Prop := fnNewNameListSplitsAfterAnyNameEndRow.holds Try.pinned (OpenSpec.ofChange fnNewNameListSplitsAfterAnyNameEndSpec)

/-- ITS FALSE NEIGHBOUR: 'it returns false'. Refute it at one input. -/
def fnNewNameListSplitsAfterAnyNameEndWrong : ChangeSpec := { name := "fnNewNameListSplitsAfterAnyNameEnd", fn := fun _ => fun
  | [d1, d2] => { results := [.lit (.bool false)], args := [d1, d2] }
  | _ => none }
def FnNewNameListSplitsAfterAnyNameEndWrongFalsely : Prop := fnNewNameListSplitsAfterAnyNameEndRow.holds Try.pinned (OpenSpec.ofChange fnNewNameListSplitsAfterAnyNameEndWrong)

/-- 'zzlaws_root_b1.FnCompareMatchesDominance': WHATEVER THE INPUT: true; the input reads as it did. -/
def fnCompareMatchesDominanceSpec : ChangeSpec := { name := "fnCompareMatchesDominance", fn := fun _ => fun
  | [d1, d2] => { results := [.lit (.bool true)], args := [d1, d2] }
  | _ => none }
def fnCompareMatchesDominanceRow : OpenClaim := { program := "qxb6617139a", sum := "ae4f0511dfb938ec592328dc7b2d56d43bade2983ffad64e775178fa7cb35af7", func := "example.com/happenstance/happenstance/zzlaws_root_b1.FnCompareMatchesDominance", spec := "fnCompareMatchesDominance", apart := false }
def FnCompareMatchesDominanceSaid : Prop := fnCompareMatchesDominanceRow.holds Try.pinned (OpenSpec.ofChange fnCompareMatchesDominanceSpec)

/-- ITS FALSE NEIGHBOUR: 'it returns false'. Refute it at one input. -/
def fnCompareMatchesDominanceWrong : ChangeSpec := { name := "fnCompareMatchesDominance", fn := fun _ => fun
  | [d1, d2] => { results := [.lit (.bool false)], args := [d1, d2] }
  | _ => none }
def FnCompareMatchesDominanceWrongFalsely : Prop := fnCompareMatchesDominanceRow.holds Try.pinned (OpenSpec.ofChange fnCompareMatchesDominanceWrong)

/-- 'zzlaws_root_b1.FnCompareSwapAndZeroPadding': WHATEVER THE INPUT: true; the input reads as it did. -/
def fnCompareSwapAndZeroPaddingSpec : ChangeSpec := { name := "fnCompareSwapAndZeroPadding", fn := fun _ => fun
  | [d1, d2, d3, d4] => { results := [.lit (.bool true)], args := [d1, d2, d3, d4] }
  | _ => none }
def fnCompareSwapAndZeroPaddingRow : OpenClaim := { program := "qxb6617139a", sum := "ae4f0511dfb938ec592328dc7b2d56d43bade2983ffad64e775178fa7cb35af7", func := "example.com/happenstance/happenstance/zzlaws_root_b1.FnCompareSwapAndZeroPadding", spec := "fnCompareSwapAndZeroPadding", apart := false }
def FnCompareSwapAndZeroPaddingSaid : Prop := fnCompareSwapAndZeroPaddingRow.holds Try.pinned (OpenSpec.ofChange fnCompareSwapAndZeroPaddingSpec)

/-- ITS FALSE NEIGHBOUR: 'it returns false'. Refute it at one input. -/
def fnCompareSwapAndZeroPaddingWrong : ChangeSpec := { name := "fnCompareSwapAndZeroPadding", fn := fun _ => fun
  | [d1, d2, d3, d4] => { results := [.lit (.bool false)], args := [d1, d2, d3, d4] }
  | _ => none }
def FnCompareSwapAndZeroPaddingWrongFalsely : Prop := fnCompareSwapAndZeroPaddingRow.holds Try.pinned (OpenSpec.ofChange fnCompareSwapAndZeroPaddingWrong)

end Rows
end Go.Proofs.Qxb6617139a
