/-
  No cell of these rows narrows 'for every input' (looked for: loops, veiled, ifaces, maps, wideKeys, modest, calm, conditions, laid).
  DERIVED. THE GIVEN ROWS OF THIS SEAT. 3 by the template 'for every input the law returns true; each argument reads behind the call as it read before'; 0 by the template 'total and deterministic' (their statements: Qxb6603854aTotals.lean).
  GIVEN WITH THE SEED: the statements are not yours to turn. If you find one false, say at which input.
  Laid BY PROGRAM, IN A SANDBOX (cutbox-rows.mjs): the forced cells as the released guide's own fill.sh prints them over the translation b565668f130001c9… (all of the seat's roots in one cut). By AI agents, Wed Nov 11 2026. No macro, syntax, notation, axiom, sorry.
-/
import Derived.Test.Qxb6603854aChecked
import GoSem.Claim
import GoSem.ClaimJoined
import GoSem.ClaimMapViews
import Derived.JoinedTies
import Derived.KernelRfl
namespace Go.Proofs.Qxb6603854a
/- THE CELL 'sum', in the pinned program and in every row, IS THE sha256 OF THE DUMP (.gsa) THAT Qxb6603854aProg.lean LOADS. Nothing in Lean hashes anything: it is a label: what it is worth is what the hold of that sum in a sandbox is worth. -/
noncomputable def Try.pinned : Pinned := { name := "qxb6603854a", sum := "b565668f130001c9c79a138ab174dfb3189f170bd7c8695b4f3df3bbad52af8c", checked := Try.checked }
namespace Rows
def none {H : Type} : Left H := { results := [], args := [] }

/-- 'zzlaws_internal_accesslog_b1.FnCutQuotedMatchesParityModel': WHATEVER THE INPUT: true; the input reads as it did. -/
def fnCutQuotedMatchesParityModelSpec : ChangeSpec := { name := "fnCutQuotedMatchesParityModel", fn := fun _ => fun
  | [d] => { results := [.lit (.bool true)], args := [d] }
  | _ => none }
def fnCutQuotedMatchesParityModelRow : OpenClaim := { program := "qxb6603854a", sum := "b565668f130001c9c79a138ab174dfb3189f170bd7c8695b4f3df3bbad52af8c", func := "example.com/libfaucet/libfaucet/zzlaws_internal_accesslog_b1.FnCutQuotedMatchesParityModel", spec := "fnCutQuotedMatchesParityModel", apart := false }
def FnCutQuotedMatchesParityModelSaid : Prop := fnCutQuotedMatchesParityModelRow.holds Try.pinned (OpenSpec.ofChange fnCutQuotedMatchesParityModelSpec)

/-- ITS FALSE NEIGHBOUR: 'it returns false'. Refute it at one input. -/
def fnCutQuotedMatchesParityModelWrong : ChangeSpec := { name := "fnCutQuotedMatchesParityModel", fn := fun _ => fun
  | [d] => { results := [.lit (.bool false)], args := [d] }
  | _ => none }
def FnCutQuotedMatchesParityModelWrongFalsely : Prop := fnCutQuotedMatchesParityModelRow.holds Try.pinned (OpenSpec.ofChange fnCutQuotedMatchesParityModelWrong)

/-- 'zzlaws_internal_accesslog_b1.FnCutQuotedInvertsEscaping': WHATEVER THE INPUT: true; the input reads as it did. -/
def fnCutQuotedInvertsEscapingSpec : ChangeSpec := { name := "fnCutQuotedInvertsEscaping", fn := fun _ => fun
  | [d1, d2] => { results := [.lit (.bool true)], args := [d1, d2] }
  | _ => none }
def fnCutQuotedInvertsEscapingRow : OpenClaim := { program := "qxb6603854a", sum := "b565668f130001c9c79a138ab174dfb3189f170bd7c8695b4f3df3bbad52af8c", func := "example.com/libfaucet/libfaucet/zzlaws_internal_accesslog_b1.FnCutQuotedInvertsEscaping", spec := "fnCutQuotedInvertsEscaping", apart := false }
def FnCutQuotedInvertsEscapingSaid : Prop := fnCutQuotedInvertsEscapingRow.holds Try.pinned (OpenSpec.ofChange fnCutQuotedInvertsEscapingSpec)

/-- ITS FALSE NEIGHBOUR: 'it returns false'. Refute it at one input. -/
def fnCutQuotedInvertsEscapingWrong : ChangeSpec := { name := "fnCutQuotedInvertsEscaping", fn := fun _ => fun
  | [d1, d2] => { results := [.lit (.bool false)], args := [d1, d2] }
  | _ => none }
def FnCutQuotedInvertsEscapingWrongFalsely : Prop := fnCutQuotedInvertsEscapingRow.holds Try.pinned (OpenSpec.ofChange fnCutQuotedInvertsEscapingWrong)

/-- 'zzlaws_internal_accesslog_b1.FnOrEmptyIdentifiesOnlyAbsentMarkers': WHATEVER THE INPUT: true; the input reads as it did. -/
def fnOrEmptyIdentifiesOnlyAbsentMarkersSpec : ChangeSpec := { name := "fnOrEmptyIdentifiesOnlyAbsentMarkers", fn := fun _ => fun
  | [d1, d2] => { results := [.lit (.bool true)], args := [d1, d2] }
  | _ => none }
def fnOrEmptyIdentifiesOnlyAbsentMarkersRow : OpenClaim := { program := "qxb6603854a", sum := "b565668f130001c9c79a138ab174dfb3189f170bd7c8695b4f3df3bbad52af8c", func := "example.com/libfaucet/libfaucet/zzlaws_internal_accesslog_b1.FnOrEmptyIdentifiesOnlyAbsentMarkers", spec := "fnOrEmptyIdentifiesOnlyAbsentMarkers", apart := false }
def FnOrEmptyIdentifiesOnlyAbsentMarkersSaid : Prop := fnOrEmptyIdentifiesOnlyAbsentMarkersRow.holds Try.pinned (OpenSpec.ofChange fnOrEmptyIdentifiesOnlyAbsentMarkersSpec)

/-- ITS FALSE NEIGHBOUR: 'it returns false'. Refute it at one input. -/
def fnOrEmptyIdentifiesOnlyAbsentMarkersWrong : ChangeSpec := { name := "fnOrEmptyIdentifiesOnlyAbsentMarkers", fn := fun _ => fun
  | [d1, d2] => { results := [.lit (.bool false)], args := [d1, d2] }
  | _ => none }
def FnOrEmptyIdentifiesOnlyAbsentMarkersWrongFalsely : Prop := fnOrEmptyIdentifiesOnlyAbsentMarkersRow.holds Try.pinned (OpenSpec.ofChange fnOrEmptyIdentifiesOnlyAbsentMarkersWrong)

end Rows
end Go.Proofs.Qxb6603854a
