/-
  No cell of these rows narrows 'for every input' (looked for: loops, veiled, ifaces, maps, wideKeys, modest, calm, conditions, laid).
  DERIVED. THE GIVEN ROWS OF THIS SEAT. 5 by the template 'for every input the law returns true; each argument reads behind the call as it read before'; 0 by the template 'total and deterministic' (their statements: Qxb6604323aTotals.lean).
  GIVEN WITH THE SEED: the statements are not yours to turn. If you find one false, say at which input.
  Laid BY PROGRAM, IN A SANDBOX (cutbox-rows.mjs): the forced cells as the released guide's own fill.sh prints them over the translation 8bdc8db36e0fb885… (all of the seat's roots in one cut). By AI agents, Wed Nov 11 2026. No macro, syntax, notation, axiom, sorry.
-/
import Derived.Test.Qxb6604323aChecked
import GoSem.Claim
import GoSem.ClaimJoined
import GoSem.ClaimMapViews
import Derived.JoinedTies
import Derived.KernelRfl
namespace Go.Proofs.Qxb6604323a
/- THE CELL 'sum', in the pinned program and in every row, IS THE sha256 OF THE DUMP (.gsa) THAT Qxb6604323aProg.lean LOADS. Nothing in Lean hashes anything: it is a label: what it is worth is what the hold of that sum in a sandbox is worth. -/
noncomputable def Try.pinned : Pinned := { name := "qxb6604323a", sum := "8bdc8db36e0fb885b5775470d05366c2778812675e804a20f0ecd59a2939d9d3", checked := Try.checked }
namespace Rows
def none {H : Type} : Left H := { results := [], args := [] }

/-- 'zzlaws_cut_b1.FnReplaceAgreesWithModel': WHATEVER THE INPUT: true; the input reads as it did. -/
def fnReplaceAgreesWithModelSpec : ChangeSpec := { name := "fnReplaceAgreesWithModel", fn := fun _ => fun
  | [d1, d2, d3, d4, d5, d6, d7] => { results := [.lit (.bool true)], args := [d1, d2, d3, d4, d5, d6, d7] }
  | _ => none }
def fnReplaceAgreesWithModelRow : OpenClaim := { program := "qxb6604323a", sum := "8bdc8db36e0fb885b5775470d05366c2778812675e804a20f0ecd59a2939d9d3", func := "example.com/dunlin/dunlin/zzlaws_cut_b1.FnReplaceAgreesWithModel", spec := "fnReplaceAgreesWithModel", apart := false }
def FnReplaceAgreesWithModelSaid : Prop := fnReplaceAgreesWithModelRow.holds Try.pinned (OpenSpec.ofChange fnReplaceAgreesWithModelSpec)

/-- ITS FALSE NEIGHBOUR: 'it returns false'. Refute it at one input. -/
def fnReplaceAgreesWithModelWrong : ChangeSpec := { name := "fnReplaceAgreesWithModel", fn := fun _ => fun
  | [d1, d2, d3, d4, d5, d6, d7] => { results := [.lit (.bool false)], args := [d1, d2, d3, d4, d5, d6, d7] }
  | _ => none }
def FnReplaceAgreesWithModelWrongFalsely : Prop := fnReplaceAgreesWithModelRow.holds Try.pinned (OpenSpec.ofChange fnReplaceAgreesWithModelWrong)

/-- 'zzlaws_cut_b1.FnReplaceUndoneBySwapBack': WHATEVER THE INPUT: true; the input reads as it did. -/
def fnReplaceUndoneBySwapBackSpec : ChangeSpec := { name := "fnReplaceUndoneBySwapBack", fn := fun _ => fun
  | [d1, d2, d3, d4] => { results := [.lit (.bool true)], args := [d1, d2, d3, d4] }
  | _ => none }
def fnReplaceUndoneBySwapBackRow : OpenClaim := { program := "qxb6604323a", sum := "8bdc8db36e0fb885b5775470d05366c2778812675e804a20f0ecd59a2939d9d3", func := "example.com/dunlin/dunlin/zzlaws_cut_b1.FnReplaceUndoneBySwapBack", spec := "fnReplaceUndoneBySwapBack", apart := false }
def FnReplaceUndoneBySwapBackSaid : Prop := fnReplaceUndoneBySwapBackRow.holds Try.pinned (OpenSpec.ofChange fnReplaceUndoneBySwapBackSpec)

/-- ITS FALSE NEIGHBOUR: 'it returns false'. Refute it at one input. -/
def fnReplaceUndoneBySwapBackWrong : ChangeSpec := { name := "fnReplaceUndoneBySwapBack", fn := fun _ => fun
  | [d1, d2, d3, d4] => { results := [.lit (.bool false)], args := [d1, d2, d3, d4] }
  | _ => none }
def FnReplaceUndoneBySwapBackWrongFalsely : Prop := fnReplaceUndoneBySwapBackRow.holds Try.pinned (OpenSpec.ofChange fnReplaceUndoneBySwapBackWrong)

/-- 'zzlaws_cut_b1.FnReplaceScriptKeepsLastReplacement': WHATEVER THE INPUT: true; the input reads as it did. -/
def fnReplaceScriptKeepsLastReplacementSpec : ChangeSpec := { name := "fnReplaceScriptKeepsLastReplacement", fn := fun _ => fun
  | [d1, d2, d3, d4] => { results := [.lit (.bool true)], args := [d1, d2, d3, d4] }
  | _ => none }
def fnReplaceScriptKeepsLastReplacementRow : OpenClaim := { program := "qxb6604323a", sum := "8bdc8db36e0fb885b5775470d05366c2778812675e804a20f0ecd59a2939d9d3", func := "example.com/dunlin/dunlin/zzlaws_cut_b1.FnReplaceScriptKeepsLastReplacement", spec := "fnReplaceScriptKeepsLastReplacement", apart := false }
def FnReplaceScriptKeepsLastReplacementSaid : Prop := fnReplaceScriptKeepsLastReplacementRow.holds Try.pinned (OpenSpec.ofChange fnReplaceScriptKeepsLastReplacementSpec)

/-- ITS FALSE NEIGHBOUR: 'it returns false'. Refute it at one input. -/
def fnReplaceScriptKeepsLastReplacementWrong : ChangeSpec := { name := "fnReplaceScriptKeepsLastReplacement", fn := fun _ => fun
  | [d1, d2, d3, d4] => { results := [.lit (.bool false)], args := [d1, d2, d3, d4] }
  | _ => none }
def FnReplaceScriptKeepsLastReplacementWrongFalsely : Prop := fnReplaceScriptKeepsLastReplacementRow.holds Try.pinned (OpenSpec.ofChange fnReplaceScriptKeepsLastReplacementWrong)

/-- 'zzlaws_cut_b1.FnTrimCommitsCaseTable': WHATEVER THE INPUT: true; the input reads as it did. -/
def fnTrimCommitsCaseTableSpec : ChangeSpec := { name := "fnTrimCommitsCaseTable", fn := fun _ => fun
  | [d1, d2] => { results := [.lit (.bool true)], args := [d1, d2] }
  | _ => none }
def fnTrimCommitsCaseTableRow : OpenClaim := { program := "qxb6604323a", sum := "8bdc8db36e0fb885b5775470d05366c2778812675e804a20f0ecd59a2939d9d3", func := "example.com/dunlin/dunlin/zzlaws_cut_b1.FnTrimCommitsCaseTable", spec := "fnTrimCommitsCaseTable", apart := false }
def FnTrimCommitsCaseTableSaid : Prop := fnTrimCommitsCaseTableRow.holds Try.pinned (OpenSpec.ofChange fnTrimCommitsCaseTableSpec)

/-- ITS FALSE NEIGHBOUR: 'it returns false'. Refute it at one input. -/
def fnTrimCommitsCaseTableWrong : ChangeSpec := { name := "fnTrimCommitsCaseTable", fn := fun _ => fun
  | [d1, d2] => { results := [.lit (.bool false)], args := [d1, d2] }
  | _ => none }
def FnTrimCommitsCaseTableWrongFalsely : Prop := fnTrimCommitsCaseTableRow.holds Try.pinned (OpenSpec.ofChange fnTrimCommitsCaseTableWrong)

/-- 'zzlaws_cut_b1.FnTrimAgreesWithModel': WHATEVER THE INPUT: true; the input reads as it did. -/
def fnTrimAgreesWithModelSpec : ChangeSpec := { name := "fnTrimAgreesWithModel", fn := fun _ => fun
  | [d1, d2, d3, d4, d5] => { results := [.lit (.bool true)], args := [d1, d2, d3, d4, d5] }
  | _ => none }
def fnTrimAgreesWithModelRow : OpenClaim := { program := "qxb6604323a", sum := "8bdc8db36e0fb885b5775470d05366c2778812675e804a20f0ecd59a2939d9d3", func := "example.com/dunlin/dunlin/zzlaws_cut_b1.FnTrimAgreesWithModel", spec := "fnTrimAgreesWithModel", apart := false }
def FnTrimAgreesWithModelSaid : Prop := fnTrimAgreesWithModelRow.holds Try.pinned (OpenSpec.ofChange fnTrimAgreesWithModelSpec)

/-- ITS FALSE NEIGHBOUR: 'it returns false'. Refute it at one input. -/
def fnTrimAgreesWithModelWrong : ChangeSpec := { name := "fnTrimAgreesWithModel", fn := fun _ => fun
  | [d1, d2, d3, d4, d5] => { results := [.lit (.bool false)], args := [d1, d2, d3, d4, d5] }
  | _ => none }
def FnTrimAgreesWithModelWrongFalsely : Prop := fnTrimAgreesWithModelRow.holds Try.pinned (OpenSpec.ofChange fnTrimAgreesWithModelWrong)

end Rows
end Go.Proofs.Qxb6604323a
