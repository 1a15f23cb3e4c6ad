/-
  No cell of these rows narrows 'for every input' (looked for: loops, veiled, ifaces, maps, wideKeys, modest, calm, conditions, laid).
  DERIVED. THE GIVEN ROWS OF THIS SEAT. 6 by the template 'for every input the law returns true; each argument reads behind the call as it read before'; 0 by the template 'total and deterministic' (their statements: Qxb6604007aTotals.lean).
  GIVEN WITH THE SEED: the statements are not yours to turn. If you find one false, say at which input.
  Laid BY PROGRAM, IN A SANDBOX (cutbox-rows.mjs): the forced cells as the released guide's own fill.sh prints them over the translation f05a58086c9ea805… (all of the seat's roots in one cut). By AI agents, Wed Nov 11 2026. No macro, syntax, notation, axiom, sorry.
-/
import Derived.Test.Qxb6604007aChecked
import GoSem.Claim
import GoSem.ClaimJoined
import GoSem.ClaimMapViews
import Derived.JoinedTies
import Derived.KernelRfl
namespace Go.Proofs.Qxb6604007a
/- THE CELL 'sum', in the pinned program and in every row, IS THE sha256 OF THE DUMP (.gsa) THAT Qxb6604007aProg.lean LOADS. Nothing in Lean hashes anything: it is a label: what it is worth is what the hold of that sum in a sandbox is worth. -/
noncomputable def Try.pinned : Pinned := { name := "qxb6604007a", sum := "f05a58086c9ea805d5969d8193b998242677f9d1018b257f59f94f1213062af0", checked := Try.checked }
namespace Rows
def none {H : Type} : Left H := { results := [], args := [] }

/-- 'zzlaws_internal_collection_b1.FnNumberEndMatchesGrammarAutomaton': WHATEVER THE INPUT: true; the input reads as it did. -/
def fnNumberEndMatchesGrammarAutomatonSpec : ChangeSpec := { name := "fnNumberEndMatchesGrammarAutomaton", fn := fun _ => fun
  | [d1, d2] => { results := [.lit (.bool true)], args := [d1, d2] }
  | _ => none }
def fnNumberEndMatchesGrammarAutomatonRow : OpenClaim := { program := "qxb6604007a", sum := "f05a58086c9ea805d5969d8193b998242677f9d1018b257f59f94f1213062af0", func := "example.com/admission/admission/zzlaws_internal_collection_b1.FnNumberEndMatchesGrammarAutomaton", spec := "fnNumberEndMatchesGrammarAutomaton", apart := false }
def FnNumberEndMatchesGrammarAutomatonSaid : Prop := fnNumberEndMatchesGrammarAutomatonRow.holds Try.pinned (OpenSpec.ofChange fnNumberEndMatchesGrammarAutomatonSpec)

/-- ITS FALSE NEIGHBOUR: 'it returns false'. Refute it at one input. -/
def fnNumberEndMatchesGrammarAutomatonWrong : ChangeSpec := { name := "fnNumberEndMatchesGrammarAutomaton", fn := fun _ => fun
  | [d1, d2] => { results := [.lit (.bool false)], args := [d1, d2] }
  | _ => none }
def FnNumberEndMatchesGrammarAutomatonWrongFalsely : Prop := fnNumberEndMatchesGrammarAutomatonRow.holds Try.pinned (OpenSpec.ofChange fnNumberEndMatchesGrammarAutomatonWrong)

/-- 'zzlaws_internal_collection_b1.FnNumberEndDependsOnlyOnItsOwnText': WHATEVER THE INPUT: true; the input reads as it did. -/
def fnNumberEndDependsOnlyOnItsOwnTextSpec : ChangeSpec := { name := "fnNumberEndDependsOnlyOnItsOwnText", fn := fun _ => fun
  | [d1, d2] => { results := [.lit (.bool true)], args := [d1, d2] }
  | _ => none }
def fnNumberEndDependsOnlyOnItsOwnTextRow : OpenClaim := { program := "qxb6604007a", sum := "f05a58086c9ea805d5969d8193b998242677f9d1018b257f59f94f1213062af0", func := "example.com/admission/admission/zzlaws_internal_collection_b1.FnNumberEndDependsOnlyOnItsOwnText", spec := "fnNumberEndDependsOnlyOnItsOwnText", apart := false }
def FnNumberEndDependsOnlyOnItsOwnTextSaid : Prop := fnNumberEndDependsOnlyOnItsOwnTextRow.holds Try.pinned (OpenSpec.ofChange fnNumberEndDependsOnlyOnItsOwnTextSpec)

/-- ITS FALSE NEIGHBOUR: 'it returns false'. Refute it at one input. -/
def fnNumberEndDependsOnlyOnItsOwnTextWrong : ChangeSpec := { name := "fnNumberEndDependsOnlyOnItsOwnText", fn := fun _ => fun
  | [d1, d2] => { results := [.lit (.bool false)], args := [d1, d2] }
  | _ => none }
def FnNumberEndDependsOnlyOnItsOwnTextWrongFalsely : Prop := fnNumberEndDependsOnlyOnItsOwnTextRow.holds Try.pinned (OpenSpec.ofChange fnNumberEndDependsOnlyOnItsOwnTextWrong)

/-- 'zzlaws_internal_collection_b1.FnEndOfStringMatchesForwardScan': WHATEVER THE INPUT: true; the input reads as it did. -/
def fnEndOfStringMatchesForwardScanSpec : ChangeSpec := { name := "fnEndOfStringMatchesForwardScan", fn := fun _ => fun
  | [d1, d2] => { results := [.lit (.bool true)], args := [d1, d2] }
  | _ => none }
def fnEndOfStringMatchesForwardScanRow : OpenClaim := { program := "qxb6604007a", sum := "f05a58086c9ea805d5969d8193b998242677f9d1018b257f59f94f1213062af0", func := "example.com/admission/admission/zzlaws_internal_collection_b1.FnEndOfStringMatchesForwardScan", spec := "fnEndOfStringMatchesForwardScan", inPlace := ["internal/bytealg.IndexByte"], apart := false }
def FnEndOfStringMatchesForwardScanSaid : Prop := fnEndOfStringMatchesForwardScanRow.holds Try.pinned (OpenSpec.ofChange fnEndOfStringMatchesForwardScanSpec)

/-- ITS FALSE NEIGHBOUR: 'it returns false'. Refute it at one input. -/
def fnEndOfStringMatchesForwardScanWrong : ChangeSpec := { name := "fnEndOfStringMatchesForwardScan", fn := fun _ => fun
  | [d1, d2] => { results := [.lit (.bool false)], args := [d1, d2] }
  | _ => none }
def FnEndOfStringMatchesForwardScanWrongFalsely : Prop := fnEndOfStringMatchesForwardScanRow.holds Try.pinned (OpenSpec.ofChange fnEndOfStringMatchesForwardScanWrong)

/-- 'zzlaws_internal_collection_b1.FnEndOfStringDependsOnlyOnItsOwnText': WHATEVER THE INPUT: true; the input reads as it did. -/
def fnEndOfStringDependsOnlyOnItsOwnTextSpec : ChangeSpec := { name := "fnEndOfStringDependsOnlyOnItsOwnText", fn := fun _ => fun
  | [d1, d2, d3] => { results := [.lit (.bool true)], args := [d1, d2, d3] }
  | _ => none }
def fnEndOfStringDependsOnlyOnItsOwnTextRow : OpenClaim := { program := "qxb6604007a", sum := "f05a58086c9ea805d5969d8193b998242677f9d1018b257f59f94f1213062af0", func := "example.com/admission/admission/zzlaws_internal_collection_b1.FnEndOfStringDependsOnlyOnItsOwnText", spec := "fnEndOfStringDependsOnlyOnItsOwnText", inPlace := ["internal/bytealg.IndexByte"], apart := false }
def FnEndOfStringDependsOnlyOnItsOwnTextSaid : Prop := fnEndOfStringDependsOnlyOnItsOwnTextRow.holds Try.pinned (OpenSpec.ofChange fnEndOfStringDependsOnlyOnItsOwnTextSpec)

/-- ITS FALSE NEIGHBOUR: 'it returns false'. Refute it at one input. -/
def fnEndOfStringDependsOnlyOnItsOwnTextWrong : ChangeSpec := { name := "fnEndOfStringDependsOnlyOnItsOwnText", fn := fun _ => fun
  | [d1, d2, d3] => { results := [.lit (.bool false)], args := [d1, d2, d3] }
  | _ => none }
def FnEndOfStringDependsOnlyOnItsOwnTextWrongFalsely : Prop := fnEndOfStringDependsOnlyOnItsOwnTextRow.holds Try.pinned (OpenSpec.ofChange fnEndOfStringDependsOnlyOnItsOwnTextWrong)

/-- 'zzlaws_internal_collection_b1.FnWalkerNextMatchesModel': WHATEVER THE INPUT: true; the input reads as it did. -/
def fnWalkerNextMatchesModelSpec : ChangeSpec := { name := "fnWalkerNextMatchesModel", fn := fun _ => fun
  | [d1, d2, d3, d4] => { results := [.lit (.bool true)], args := [d1, d2, d3, d4] }
  | _ => none }
def fnWalkerNextMatchesModelRow : OpenClaim := { program := "qxb6604007a", sum := "f05a58086c9ea805d5969d8193b998242677f9d1018b257f59f94f1213062af0", func := "example.com/admission/admission/zzlaws_internal_collection_b1.FnWalkerNextMatchesModel", spec := "fnWalkerNextMatchesModel", apart := false }
def FnWalkerNextMatchesModelSaid : Prop := fnWalkerNextMatchesModelRow.holds Try.pinned (OpenSpec.ofChange fnWalkerNextMatchesModelSpec)

/-- ITS FALSE NEIGHBOUR: 'it returns false'. Refute it at one input. -/
def fnWalkerNextMatchesModelWrong : ChangeSpec := { name := "fnWalkerNextMatchesModel", fn := fun _ => fun
  | [d1, d2, d3, d4] => { results := [.lit (.bool false)], args := [d1, d2, d3, d4] }
  | _ => none }
def FnWalkerNextMatchesModelWrongFalsely : Prop := fnWalkerNextMatchesModelRow.holds Try.pinned (OpenSpec.ofChange fnWalkerNextMatchesModelWrong)

/-- 'zzlaws_internal_collection_b1.FnWalkerNextStrictRefinesLoose': WHATEVER THE INPUT: true; the input reads as it did. -/
def fnWalkerNextStrictRefinesLooseSpec : ChangeSpec := { name := "fnWalkerNextStrictRefinesLoose", fn := fun _ => fun
  | [d1, d2, d3, d4] => { results := [.lit (.bool true)], args := [d1, d2, d3, d4] }
  | _ => none }
def fnWalkerNextStrictRefinesLooseRow : OpenClaim := { program := "qxb6604007a", sum := "f05a58086c9ea805d5969d8193b998242677f9d1018b257f59f94f1213062af0", func := "example.com/admission/admission/zzlaws_internal_collection_b1.FnWalkerNextStrictRefinesLoose", spec := "fnWalkerNextStrictRefinesLoose", apart := false }
def FnWalkerNextStrictRefinesLooseSaid : Prop := fnWalkerNextStrictRefinesLooseRow.holds Try.pinned (OpenSpec.ofChange fnWalkerNextStrictRefinesLooseSpec)

/-- ITS FALSE NEIGHBOUR: 'it returns false'. Refute it at one input. -/
def fnWalkerNextStrictRefinesLooseWrong : ChangeSpec := { name := "fnWalkerNextStrictRefinesLoose", fn := fun _ => fun
  | [d1, d2, d3, d4] => { results := [.lit (.bool false)], args := [d1, d2, d3, d4] }
  | _ => none }
def FnWalkerNextStrictRefinesLooseWrongFalsely : Prop := fnWalkerNextStrictRefinesLooseRow.holds Try.pinned (OpenSpec.ofChange fnWalkerNextStrictRefinesLooseWrong)

end Rows
end Go.Proofs.Qxb6604007a
