/-
  No cell of these rows narrows 'for every input' (looked for: loops, veiled, ifaces, maps, wideKeys, modest, calm, conditions, laid).
  DERIVED. THE GIVEN ROWS OF THIS SEAT. 2 by the template 'for every input the law returns true; each argument reads behind the call as it read before'; 0 by the template 'total and deterministic' (their statements: Qxb6619305aModsTotals.lean).
  GIVEN WITH THE SEED: the statements are not yours to turn. If you find one false, say at which input.
  Laid BY PROGRAM, IN A SANDBOX (cutbox-rows.mjs): the forced cells as the released guide's own fill.sh prints them over the translation b2f5de2e7b802294… (all of the seat's roots in one cut). By AI agents, Wed Nov 11 2026. No macro, syntax, notation, axiom, sorry.
-/
import Derived.Test.Qxb6619305aModsChecked
import GoSem.Claim
import GoSem.ClaimJoined
import GoSem.ClaimMapViews
import Derived.JoinedTies
import Derived.KernelRfl
namespace Go.Proofs.Qxb6619305aMods
/- THE CELL 'sum', in the pinned program and in every row, IS THE sha256 OF THE DUMP (.gsa) THAT Qxb6619305aModsProg.lean LOADS. Nothing in Lean hashes anything: it is a label: what it is worth is what the hold of that sum in a sandbox is worth. -/
noncomputable def Trym.pinned : Pinned := { name := "qxb6619305amods", sum := "b2f5de2e7b8022944ccd6b1919438cbb13aac47b0ada31b83d544384ccab82ff", checked := Trym.checked }
namespace Rows
def none {H : Type} : Left H := { results := [], args := [] }

/-- 'zzlaws_keyfile_b1.FnFillBlocksCyclicLeastFill': WHATEVER THE INPUT: true; the input reads as it did. -/
def fnFillBlocksCyclicLeastFillSpec : ChangeSpec := { name := "fnFillBlocksCyclicLeastFill", fn := fun _ => fun
  | [d1, d2] => { results := [.lit (.bool true)], args := [d1, d2] }
  | _ => none }
def fnFillBlocksCyclicLeastFillRow : OpenClaim := { program := "qxb6619305amods", sum := "b2f5de2e7b8022944ccd6b1919438cbb13aac47b0ada31b83d544384ccab82ff", func := "example.com/cert-credential-helper/cert-credential-helper/zzlaws_keyfile_b1.FnFillBlocksCyclicLeastFill", spec := "fnFillBlocksCyclicLeastFill", make := .lifted ["publicsums"], apart := false }
def FnFillBlocksCyclicLeastFillSaid : Prop := fnFillBlocksCyclicLeastFillRow.holds Trym.pinned (OpenSpec.ofChange fnFillBlocksCyclicLeastFillSpec)

/-- ITS FALSE NEIGHBOUR: 'it returns false'. Refute it at one input. -/
def fnFillBlocksCyclicLeastFillWrong : ChangeSpec := { name := "fnFillBlocksCyclicLeastFill", fn := fun _ => fun
  | [d1, d2] => { results := [.lit (.bool false)], args := [d1, d2] }
  | _ => none }
def FnFillBlocksCyclicLeastFillWrongFalsely : Prop := fnFillBlocksCyclicLeastFillRow.holds Trym.pinned (OpenSpec.ofChange fnFillBlocksCyclicLeastFillWrong)

/-- 'zzlaws_keyfile_b1.FnFillBlocksTwoBlockSizesAgree': WHATEVER THE INPUT: true; the input reads as it did. -/
def fnFillBlocksTwoBlockSizesAgreeSpec : ChangeSpec := { name := "fnFillBlocksTwoBlockSizesAgree", fn := fun _ => fun
  | [d1, d2, d3] => { results := [.lit (.bool true)], args := [d1, d2, d3] }
  | _ => none }
def fnFillBlocksTwoBlockSizesAgreeRow : OpenClaim := { program := "qxb6619305amods", sum := "b2f5de2e7b8022944ccd6b1919438cbb13aac47b0ada31b83d544384ccab82ff", func := "example.com/cert-credential-helper/cert-credential-helper/zzlaws_keyfile_b1.FnFillBlocksTwoBlockSizesAgree", spec := "fnFillBlocksTwoBlockSizesAgree", make := .lifted ["publicsums"], apart := false }
def FnFillBlocksTwoBlockSizesAgreeSaid : Prop := fnFillBlocksTwoBlockSizesAgreeRow.holds Trym.pinned (OpenSpec.ofChange fnFillBlocksTwoBlockSizesAgreeSpec)

/-- ITS FALSE NEIGHBOUR: 'it returns false'. Refute it at one input. -/
def fnFillBlocksTwoBlockSizesAgreeWrong : ChangeSpec := { name := "fnFillBlocksTwoBlockSizesAgree", fn := fun _ => fun
  | [d1, d2, d3] => { results := [.lit (.bool false)], args := [d1, d2, d3] }
  | _ => none }
def FnFillBlocksTwoBlockSizesAgreeWrongFalsely : Prop := fnFillBlocksTwoBlockSizesAgreeRow.holds Trym.pinned (OpenSpec.ofChange fnFillBlocksTwoBlockSizesAgreeWrong)

end Rows
end Go.Proofs.Qxb6619305aMods
