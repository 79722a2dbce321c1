/-
  No cell of these rows narrows 'for every input' (looked for: loops, veiled, ifaces, maps, wideKeys, modest, calm, conditions, laid).
  DERIVED. THE GIVEN ROWS OF THIS SEAT. 4 by the template 'for every input the law returns true; each argument reads behind the call as it read before'; 0 by the template 'total and deterministic' (their statements: Qxb6616923aModsTotals.lean).
  GIVEN WITH THE SEED: the statements are not yours to turn. If you find one false, say at which input.
  Laid BY PROGRAM, IN A SANDBOX (cutbox-rows.mjs): the forced cells as the released guide's own fill.sh prints them over the translation 260a09a727cebd66… (all of the seat's roots in one cut). By AI agents, Wed Nov 11 2026. No macro, syntax, notation, axiom, sorry.
-/
import Derived.Test.Qxb6616923aModsChecked
import GoSem.Claim
import GoSem.ClaimJoined
import GoSem.ClaimMapViews
import Derived.JoinedTies
import Derived.KernelRfl
namespace Go.Proofs.Qxb6616923aMods
/- THE CELL 'sum', in the pinned program and in every row, IS THE sha256 OF THE DUMP (.gsa) THAT Qxb6616923aModsProg.lean LOADS. Nothing in Lean hashes anything: it is a label: what it is worth is what the hold of that sum in a sandbox is worth. -/
noncomputable def Trym.pinned : Pinned := { name := "qxb6616923amods", sum := "260a09a727cebd667e89f0e80a63c73ce149e1a97be16df4657dd3985cab7b1c", checked := Trym.checked }
namespace Rows
def none {H : Type} : Left H := { results := [], args := [] }

/-- 'zzlaws_root_b1.FnContainsChildAndSibling': WHATEVER THE INPUT: true; the input reads as it did. -/
def fnContainsChildAndSiblingSpec : ChangeSpec := { name := "fnContainsChildAndSibling", fn := fun _ => fun
  | [d1, d2, d3] => { results := [.lit (.bool true)], args := [d1, d2, d3] }
  | _ => none }
def fnContainsChildAndSiblingRow : OpenClaim := { program := "qxb6616923amods", sum := "260a09a727cebd667e89f0e80a63c73ce149e1a97be16df4657dd3985cab7b1c", func := "example.com/fencepost/fencepost/zzlaws_root_b1.FnContainsChildAndSibling", spec := "fnContainsChildAndSibling", make := .lifted ["publicsums"], apart := false }
def FnContainsChildAndSiblingSaid : Prop := fnContainsChildAndSiblingRow.holds Trym.pinned (OpenSpec.ofChange fnContainsChildAndSiblingSpec)

/-- ITS FALSE NEIGHBOUR: 'it returns false'. Refute it at one input. -/
def fnContainsChildAndSiblingWrong : ChangeSpec := { name := "fnContainsChildAndSibling", fn := fun _ => fun
  | [d1, d2, d3] => { results := [.lit (.bool false)], args := [d1, d2, d3] }
  | _ => none }
def FnContainsChildAndSiblingWrongFalsely : Prop := fnContainsChildAndSiblingRow.holds Trym.pinned (OpenSpec.ofChange fnContainsChildAndSiblingWrong)

/-- 'zzlaws_root_b1.FnContainsComponentPrefixAtEveryCut': WHATEVER THE INPUT: true; the input reads as it did. -/
def fnContainsComponentPrefixAtEveryCutSpec : ChangeSpec := { name := "fnContainsComponentPrefixAtEveryCut", fn := fun _ => fun
  | [d1, d2] => { results := [.lit (.bool true)], args := [d1, d2] }
  | _ => none }
def fnContainsComponentPrefixAtEveryCutRow : OpenClaim := { program := "qxb6616923amods", sum := "260a09a727cebd667e89f0e80a63c73ce149e1a97be16df4657dd3985cab7b1c", func := "example.com/fencepost/fencepost/zzlaws_root_b1.FnContainsComponentPrefixAtEveryCut", spec := "fnContainsComponentPrefixAtEveryCut", make := .lifted ["publicsums"], apart := false }
def FnContainsComponentPrefixAtEveryCutSaid : Prop := fnContainsComponentPrefixAtEveryCutRow.holds Trym.pinned (OpenSpec.ofChange fnContainsComponentPrefixAtEveryCutSpec)

/-- ITS FALSE NEIGHBOUR: 'it returns false'. Refute it at one input. -/
def fnContainsComponentPrefixAtEveryCutWrong : ChangeSpec := { name := "fnContainsComponentPrefixAtEveryCut", fn := fun _ => fun
  | [d1, d2] => { results := [.lit (.bool false)], args := [d1, d2] }
  | _ => none }
def FnContainsComponentPrefixAtEveryCutWrongFalsely : Prop := fnContainsComponentPrefixAtEveryCutRow.holds Trym.pinned (OpenSpec.ofChange fnContainsComponentPrefixAtEveryCutWrong)

/-- 'zzlaws_root_b1.FnHoldsChildAndSiblingAnyWrite': WHATEVER THE INPUT: true; the input reads as it did. -/
def fnHoldsChildAndSiblingAnyWriteSpec : ChangeSpec := { name := "fnHoldsChildAndSiblingAnyWrite", fn := fun _ => fun
  | [d1, d2, d3, d4] => { results := [.lit (.bool true)], args := [d1, d2, d3, d4] }
  | _ => none }
def fnHoldsChildAndSiblingAnyWriteRow : OpenClaim := { program := "qxb6616923amods", sum := "260a09a727cebd667e89f0e80a63c73ce149e1a97be16df4657dd3985cab7b1c", func := "example.com/fencepost/fencepost/zzlaws_root_b1.FnHoldsChildAndSiblingAnyWrite", spec := "fnHoldsChildAndSiblingAnyWrite", make := .lifted ["publicsums"], apart := false }
def FnHoldsChildAndSiblingAnyWriteSaid : Prop := fnHoldsChildAndSiblingAnyWriteRow.holds Trym.pinned (OpenSpec.ofChange fnHoldsChildAndSiblingAnyWriteSpec)

/-- ITS FALSE NEIGHBOUR: 'it returns false'. Refute it at one input. -/
def fnHoldsChildAndSiblingAnyWriteWrong : ChangeSpec := { name := "fnHoldsChildAndSiblingAnyWrite", fn := fun _ => fun
  | [d1, d2, d3, d4] => { results := [.lit (.bool false)], args := [d1, d2, d3, d4] }
  | _ => none }
def FnHoldsChildAndSiblingAnyWriteWrongFalsely : Prop := fnHoldsChildAndSiblingAnyWriteRow.holds Trym.pinned (OpenSpec.ofChange fnHoldsChildAndSiblingAnyWriteWrong)

/-- 'zzlaws_root_b1.FnHoldsComponentPrefixAgreesWithContains': WHATEVER THE INPUT: true; the input reads as it did. -/
def fnHoldsComponentPrefixAgreesWithContainsSpec : ChangeSpec := { name := "fnHoldsComponentPrefixAgreesWithContains", fn := fun _ => fun
  | [d1, d2, d3] => { results := [.lit (.bool true)], args := [d1, d2, d3] }
  | _ => none }
def fnHoldsComponentPrefixAgreesWithContainsRow : OpenClaim := { program := "qxb6616923amods", sum := "260a09a727cebd667e89f0e80a63c73ce149e1a97be16df4657dd3985cab7b1c", func := "example.com/fencepost/fencepost/zzlaws_root_b1.FnHoldsComponentPrefixAgreesWithContains", spec := "fnHoldsComponentPrefixAgreesWithContains", make := .lifted ["publicsums"], apart := false }
def FnHoldsComponentPrefixAgreesWithContainsSaid : Prop := fnHoldsComponentPrefixAgreesWithContainsRow.holds Trym.pinned (OpenSpec.ofChange fnHoldsComponentPrefixAgreesWithContainsSpec)

/-- ITS FALSE NEIGHBOUR: 'it returns false'. Refute it at one input. -/
def fnHoldsComponentPrefixAgreesWithContainsWrong : ChangeSpec := { name := "fnHoldsComponentPrefixAgreesWithContains", fn := fun _ => fun
  | [d1, d2, d3] => { results := [.lit (.bool false)], args := [d1, d2, d3] }
  | _ => none }
def FnHoldsComponentPrefixAgreesWithContainsWrongFalsely : Prop := fnHoldsComponentPrefixAgreesWithContainsRow.holds Trym.pinned (OpenSpec.ofChange fnHoldsComponentPrefixAgreesWithContainsWrong)

end Rows
end Go.Proofs.Qxb6616923aMods
