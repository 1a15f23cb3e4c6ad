/-
  No cell of these rows narrows 'for every input' (looked for: loops, veiled, ifaces, maps, wideKeys, modest, calm, conditions, laid).
  DERIVED. THE GIVEN ROWS OF THIS SEAT. 2 by the template 'for every input the law returns true; each argument reads behind the call as it read before'; 0 by the template 'total and deterministic' (their statements: Qxb6603346aTotals.lean).
  GIVEN WITH THE SEED: the statements are not yours to turn. If you find one false, say at which input.
  Laid BY PROGRAM, IN A SANDBOX (cutbox-rows.mjs): the forced cells as the released guide's own fill.sh prints them over the translation eefcb5744726c8c5… (all of the seat's roots in one cut). By AI agents, Wed Nov 11 2026. No macro, syntax, notation, axiom, sorry.
-/
import Derived.Test.Qxb6603346aChecked
import GoSem.Claim
import GoSem.ClaimJoined
import GoSem.ClaimMapViews
import Derived.JoinedTies
import Derived.KernelRfl
namespace Go.Proofs.Qxb6603346a
/- THE CELL 'sum', in the pinned program and in every row, IS THE sha256 OF THE DUMP (.gsa) THAT Qxb6603346aProg.lean LOADS. Nothing in Lean hashes anything: it is a label: what it is worth is what the hold of that sum in a sandbox is worth. -/
noncomputable def Try.pinned : Pinned := { name := "qxb6603346a", sum := "eefcb5744726c8c5576dcf56d5e305cb81aea42c5357d1297f191ebb8b838e8e", checked := Try.checked }
namespace Rows
def none {H : Type} : Left H := { results := [], args := [] }

/-- 'zzlaws_upstream_b1.FnValueMatchesModel': WHATEVER THE INPUT: true; the input reads as it did. -/
def fnValueMatchesModelSpec : ChangeSpec := { name := "fnValueMatchesModel", fn := fun _ => fun
  | [d1, d2] => { results := [.lit (.bool true)], args := [d1, d2] }
  | _ => none }
def fnValueMatchesModelRow : OpenClaim := { program := "qxb6603346a", sum := "eefcb5744726c8c5576dcf56d5e305cb81aea42c5357d1297f191ebb8b838e8e", func := "example.com/longshore/longshore/zzlaws_upstream_b1.FnValueMatchesModel", spec := "fnValueMatchesModel", inPlace := ["internal/bytealg.IndexByteString", "internal/abi.NoEscape"], apart := false }
def FnValueMatchesModelSaid : Prop := fnValueMatchesModelRow.holds Try.pinned (OpenSpec.ofChange fnValueMatchesModelSpec)

/-- ITS FALSE NEIGHBOUR: 'it returns false'. Refute it at one input. -/
def fnValueMatchesModelWrong : ChangeSpec := { name := "fnValueMatchesModel", fn := fun _ => fun
  | [d1, d2] => { results := [.lit (.bool false)], args := [d1, d2] }
  | _ => none }
def FnValueMatchesModelWrongFalsely : Prop := fnValueMatchesModelRow.holds Try.pinned (OpenSpec.ofChange fnValueMatchesModelWrong)

/-- 'zzlaws_upstream_b1.FnValueUnquotesWhatWasQuoted': WHATEVER THE INPUT: true; the input reads as it did. -/
def fnValueUnquotesWhatWasQuotedSpec : ChangeSpec := { name := "fnValueUnquotesWhatWasQuoted", fn := fun _ => fun
  | [d1, d2, d3, d4] => { results := [.lit (.bool true)], args := [d1, d2, d3, d4] }
  | _ => none }
def fnValueUnquotesWhatWasQuotedRow : OpenClaim := { program := "qxb6603346a", sum := "eefcb5744726c8c5576dcf56d5e305cb81aea42c5357d1297f191ebb8b838e8e", func := "example.com/longshore/longshore/zzlaws_upstream_b1.FnValueUnquotesWhatWasQuoted", spec := "fnValueUnquotesWhatWasQuoted", inPlace := ["internal/bytealg.IndexByteString", "internal/abi.NoEscape"], apart := false }
def FnValueUnquotesWhatWasQuotedSaid : Prop := fnValueUnquotesWhatWasQuotedRow.holds Try.pinned (OpenSpec.ofChange fnValueUnquotesWhatWasQuotedSpec)

/-- ITS FALSE NEIGHBOUR: 'it returns false'. Refute it at one input. -/
def fnValueUnquotesWhatWasQuotedWrong : ChangeSpec := { name := "fnValueUnquotesWhatWasQuoted", fn := fun _ => fun
  | [d1, d2, d3, d4] => { results := [.lit (.bool false)], args := [d1, d2, d3, d4] }
  | _ => none }
def FnValueUnquotesWhatWasQuotedWrongFalsely : Prop := fnValueUnquotesWhatWasQuotedRow.holds Try.pinned (OpenSpec.ofChange fnValueUnquotesWhatWasQuotedWrong)

end Rows
end Go.Proofs.Qxb6603346a
