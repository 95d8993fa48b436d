/-
  No cell of these rows narrows 'for every input' (looked for: loops, veiled, ifaces, maps, wideKeys, modest, calm, conditions, laid).
  DERIVED. THE GIVEN ROWS OF THIS SEAT. 6 by the template 'for every input the law returns true; each argument reads behind the call as it read before'; 0 by the template 'total and deterministic' (their statements: Qxb6000021aModsTotals.lean).
  GIVEN WITH THE SEED: the statements are not yours to turn. If you find one false, say at which input.
  Laid BY PROGRAM, IN A SANDBOX (cutbox-rows.mjs): the forced cells as the released guide's own fill.sh prints them over the translation 5b25ef4a4c41c4e2… (all of the seat's roots in one cut). By AI agents, Wed Nov 11 2026. No macro, syntax, notation, axiom, sorry.
-/
import Derived.Test.Qxb6000021aModsChecked
import GoSem.Claim
import GoSem.ClaimJoined
import GoSem.ClaimMapViews
import Derived.JoinedTies
import Derived.KernelRfl
namespace Go.Proofs.Qxb6000021aMods
/- THE CELL 'sum', in the pinned program and in every row, IS THE sha256 OF THE DUMP (.gsa) THAT Qxb6000021aModsProg.lean LOADS. Nothing in Lean hashes anything: it is a label: what it is worth is what the hold of that sum in a sandbox is worth. -/
noncomputable def Trym.pinned : Pinned := { name := "qxb6000021amods", sum := "5b25ef4a4c41c4e2bd3d786077971e46c9f6688ebddfd88a08828a97f1b0c290", checked := Trym.checked }
namespace Rows
def none {H : Type} : Left H := { results := [], args := [] }

/-- 'zzlaws_internal_limit_b1.FnReadNumberMatchesModel': WHATEVER THE INPUT: true; the input reads as it did. -/
def fnReadNumberMatchesModelSpec : ChangeSpec := { name := "fnReadNumberMatchesModel", fn := fun _ => fun
  | [d] => { results := [.lit (.bool true)], args := [d] }
  | _ => none }
def fnReadNumberMatchesModelRow : OpenClaim := { program := "qxb6000021amods", sum := "5b25ef4a4c41c4e2bd3d786077971e46c9f6688ebddfd88a08828a97f1b0c290", func := "example.com/lone-table/lone-table/zzlaws_internal_limit_b1.FnReadNumberMatchesModel", spec := "fnReadNumberMatchesModel", make := .lifted ["publicsums"], apart := false }
def FnReadNumberMatchesModelSaid : Prop := fnReadNumberMatchesModelRow.holds Trym.pinned (OpenSpec.ofChange fnReadNumberMatchesModelSpec)

/-- ITS FALSE NEIGHBOUR: 'it returns false'. Refute it at one input. -/
def fnReadNumberMatchesModelWrong : ChangeSpec := { name := "fnReadNumberMatchesModel", fn := fun _ => fun
  | [d] => { results := [.lit (.bool false)], args := [d] }
  | _ => none }
def FnReadNumberMatchesModelWrongFalsely : Prop := fnReadNumberMatchesModelRow.holds Trym.pinned (OpenSpec.ofChange fnReadNumberMatchesModelWrong)

/-- 'zzlaws_internal_limit_b1.FnAppendMatchesPlaceValue': WHATEVER THE INPUT: true; the input reads as it did. -/
def fnAppendMatchesPlaceValueSpec : ChangeSpec := { name := "fnAppendMatchesPlaceValue", fn := fun _ => fun
  | [d1, d2, d3, d4] => { results := [.lit (.bool true)], args := [d1, d2, d3, d4] }
  | _ => none }
def fnAppendMatchesPlaceValueRow : OpenClaim := { program := "qxb6000021amods", sum := "5b25ef4a4c41c4e2bd3d786077971e46c9f6688ebddfd88a08828a97f1b0c290", func := "example.com/lone-table/lone-table/zzlaws_internal_limit_b1.FnAppendMatchesPlaceValue", spec := "fnAppendMatchesPlaceValue", make := .lifted ["publicsums"], apart := false }
def FnAppendMatchesPlaceValueSaid : Prop := fnAppendMatchesPlaceValueRow.holds Trym.pinned (OpenSpec.ofChange fnAppendMatchesPlaceValueSpec)

/-- ITS FALSE NEIGHBOUR: 'it returns false'. Refute it at one input. -/
def fnAppendMatchesPlaceValueWrong : ChangeSpec := { name := "fnAppendMatchesPlaceValue", fn := fun _ => fun
  | [d1, d2, d3, d4] => { results := [.lit (.bool false)], args := [d1, d2, d3, d4] }
  | _ => none }
def FnAppendMatchesPlaceValueWrongFalsely : Prop := fnAppendMatchesPlaceValueRow.holds Trym.pinned (OpenSpec.ofChange fnAppendMatchesPlaceValueWrong)

/-- 'zzlaws_internal_limit_b1.FnReadNumberInvertsAppend': WHATEVER THE INPUT: true; the input reads as it did. -/
def fnReadNumberInvertsAppendSpec : ChangeSpec := { name := "fnReadNumberInvertsAppend", fn := fun _ => fun
  | [d1, d2, d3] => { results := [.lit (.bool true)], args := [d1, d2, d3] }
  | _ => none }
def fnReadNumberInvertsAppendRow : OpenClaim := { program := "qxb6000021amods", sum := "5b25ef4a4c41c4e2bd3d786077971e46c9f6688ebddfd88a08828a97f1b0c290", func := "example.com/lone-table/lone-table/zzlaws_internal_limit_b1.FnReadNumberInvertsAppend", spec := "fnReadNumberInvertsAppend", make := .lifted ["publicsums"], apart := false }
def FnReadNumberInvertsAppendSaid : Prop := fnReadNumberInvertsAppendRow.holds Trym.pinned (OpenSpec.ofChange fnReadNumberInvertsAppendSpec)

/-- ITS FALSE NEIGHBOUR: 'it returns false'. Refute it at one input. -/
def fnReadNumberInvertsAppendWrong : ChangeSpec := { name := "fnReadNumberInvertsAppend", fn := fun _ => fun
  | [d1, d2, d3] => { results := [.lit (.bool false)], args := [d1, d2, d3] }
  | _ => none }
def FnReadNumberInvertsAppendWrongFalsely : Prop := fnReadNumberInvertsAppendRow.holds Trym.pinned (OpenSpec.ofChange fnReadNumberInvertsAppendWrong)

/-- 'zzlaws_internal_limit_b1.FnReadNumberCanonicalAndStable': WHATEVER THE INPUT: true; the input reads as it did. -/
def fnReadNumberCanonicalAndStableSpec : ChangeSpec := { name := "fnReadNumberCanonicalAndStable", fn := fun _ => fun
  | [d] => { results := [.lit (.bool true)], args := [d] }
  | _ => none }
def fnReadNumberCanonicalAndStableRow : OpenClaim := { program := "qxb6000021amods", sum := "5b25ef4a4c41c4e2bd3d786077971e46c9f6688ebddfd88a08828a97f1b0c290", func := "example.com/lone-table/lone-table/zzlaws_internal_limit_b1.FnReadNumberCanonicalAndStable", spec := "fnReadNumberCanonicalAndStable", make := .lifted ["publicsums"], apart := false }
def FnReadNumberCanonicalAndStableSaid : Prop := fnReadNumberCanonicalAndStableRow.holds Trym.pinned (OpenSpec.ofChange fnReadNumberCanonicalAndStableSpec)

/-- ITS FALSE NEIGHBOUR: 'it returns false'. Refute it at one input. -/
def fnReadNumberCanonicalAndStableWrong : ChangeSpec := { name := "fnReadNumberCanonicalAndStable", fn := fun _ => fun
  | [d] => { results := [.lit (.bool false)], args := [d] }
  | _ => none }
def FnReadNumberCanonicalAndStableWrongFalsely : Prop := fnReadNumberCanonicalAndStableRow.holds Trym.pinned (OpenSpec.ofChange fnReadNumberCanonicalAndStableWrong)

/-- 'zzlaws_internal_limit_b1.FnReadNumberSignPrefix': WHATEVER THE INPUT: true; the input reads as it did. -/
def fnReadNumberSignPrefixSpec : ChangeSpec := { name := "fnReadNumberSignPrefix", fn := fun _ => fun
  | [d] => { results := [.lit (.bool true)], args := [d] }
  | _ => none }
def fnReadNumberSignPrefixRow : OpenClaim := { program := "qxb6000021amods", sum := "5b25ef4a4c41c4e2bd3d786077971e46c9f6688ebddfd88a08828a97f1b0c290", func := "example.com/lone-table/lone-table/zzlaws_internal_limit_b1.FnReadNumberSignPrefix", spec := "fnReadNumberSignPrefix", make := .lifted ["publicsums"], apart := false }
def FnReadNumberSignPrefixSaid : Prop := fnReadNumberSignPrefixRow.holds Trym.pinned (OpenSpec.ofChange fnReadNumberSignPrefixSpec)

/-- ITS FALSE NEIGHBOUR: 'it returns false'. Refute it at one input. -/
def fnReadNumberSignPrefixWrong : ChangeSpec := { name := "fnReadNumberSignPrefix", fn := fun _ => fun
  | [d] => { results := [.lit (.bool false)], args := [d] }
  | _ => none }
def FnReadNumberSignPrefixWrongFalsely : Prop := fnReadNumberSignPrefixRow.holds Trym.pinned (OpenSpec.ofChange fnReadNumberSignPrefixWrong)

/-- 'zzlaws_internal_limit_b1.FnKeyOrdersAsNumbers': WHATEVER THE INPUT: true; the input reads as it did. -/
def fnKeyOrdersAsNumbersSpec : ChangeSpec := { name := "fnKeyOrdersAsNumbers", fn := fun _ => fun
  | [d1, d2, d3, d4, d5, d6] => { results := [.lit (.bool true)], args := [d1, d2, d3, d4, d5, d6] }
  | _ => none }
def fnKeyOrdersAsNumbersRow : OpenClaim := { program := "qxb6000021amods", sum := "5b25ef4a4c41c4e2bd3d786077971e46c9f6688ebddfd88a08828a97f1b0c290", func := "example.com/lone-table/lone-table/zzlaws_internal_limit_b1.FnKeyOrdersAsNumbers", spec := "fnKeyOrdersAsNumbers", make := .lifted ["publicsums"], apart := false }
def FnKeyOrdersAsNumbersSaid : Prop := fnKeyOrdersAsNumbersRow.holds Trym.pinned (OpenSpec.ofChange fnKeyOrdersAsNumbersSpec)

/-- ITS FALSE NEIGHBOUR: 'it returns false'. Refute it at one input. -/
def fnKeyOrdersAsNumbersWrong : ChangeSpec := { name := "fnKeyOrdersAsNumbers", fn := fun _ => fun
  | [d1, d2, d3, d4, d5, d6] => { results := [.lit (.bool false)], args := [d1, d2, d3, d4, d5, d6] }
  | _ => none }
def FnKeyOrdersAsNumbersWrongFalsely : Prop := fnKeyOrdersAsNumbersRow.holds Trym.pinned (OpenSpec.ofChange fnKeyOrdersAsNumbersWrong)

end Rows
end Go.Proofs.Qxb6000021aMods
