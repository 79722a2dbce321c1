/-
  No cell of these rows narrows 'for every input' (looked for: loops, veiled, ifaces, maps, wideKeys, modest, calm, conditions, laid).
  DERIVED. THE GIVEN ROWS OF THIS SEAT. 1 by the template 'for every input the law returns true; each argument reads behind the call as it read before'; 0 by the template 'total and deterministic' (their statements: Qxb6618027aModsTotals.lean).
  GIVEN WITH THE SEED: the statements are not yours to turn. If you find one false, say at which input.
  Laid BY PROGRAM, IN A SANDBOX (cutbox-rows.mjs): the forced cells as the released guide's own fill.sh prints them over the translation 03603e98e9ff3134… (all of the seat's roots in one cut). By AI agents, Wed Nov 11 2026. No macro, syntax, notation, axiom, sorry.
-/
import Derived.Test.Qxb6618027aModsChecked
import GoSem.Claim
import GoSem.ClaimJoined
import GoSem.ClaimMapViews
import Derived.JoinedTies
import Derived.KernelRfl
namespace Go.Proofs.Qxb6618027aMods
/- THE CELL 'sum', in the pinned program and in every row, IS THE sha256 OF THE DUMP (.gsa) THAT Qxb6618027aModsProg.lean LOADS. Nothing in Lean hashes anything: it is a label: what it is worth is what the hold of that sum in a sandbox is worth. -/
noncomputable def Trym.pinned : Pinned := { name := "qxb6618027amods", sum := "03603e98e9ff3134b00cdd751f74ca3b8aa486032e46e5e248fa4233292f7e39", checked := Trym.checked }
namespace Rows
def none {H : Type} : Left H := { results := [], args := [] }

/-- 'zzlaws_internal_lock_b1.FnTargetsOfIsWhatBarsEitherName': WHATEVER THE INPUT: true; the input reads as it did. -/
def fnTargetsOfIsWhatBarsEitherNameSpec : ChangeSpec := { name := "fnTargetsOfIsWhatBarsEitherName", fn := fun _ => fun
  | [d1, d2, d3, d4, d5, d6, d7] => { results := [.lit (.bool true)], args := [d1, d2, d3, d4, d5, d6, d7] }
  | _ => none }
def fnTargetsOfIsWhatBarsEitherNameRow : OpenClaim := { program := "qxb6618027amods", sum := "03603e98e9ff3134b00cdd751f74ca3b8aa486032e46e5e248fa4233292f7e39", func := "example.com/firm-bind/firm-bind/zzlaws_internal_lock_b1.FnTargetsOfIsWhatBarsEitherName", spec := "fnTargetsOfIsWhatBarsEitherName", make := .lifted ["publicsums"], apart := false }
def FnTargetsOfIsWhatBarsEitherNameSaid : Prop := fnTargetsOfIsWhatBarsEitherNameRow.holds Trym.pinned (OpenSpec.ofChange fnTargetsOfIsWhatBarsEitherNameSpec)

/-- ITS FALSE NEIGHBOUR: 'it returns false'. Refute it at one input. -/
def fnTargetsOfIsWhatBarsEitherNameWrong : ChangeSpec := { name := "fnTargetsOfIsWhatBarsEitherName", fn := fun _ => fun
  | [d1, d2, d3, d4, d5, d6, d7] => { results := [.lit (.bool false)], args := [d1, d2, d3, d4, d5, d6, d7] }
  | _ => none }
def FnTargetsOfIsWhatBarsEitherNameWrongFalsely : Prop := fnTargetsOfIsWhatBarsEitherNameRow.holds Trym.pinned (OpenSpec.ofChange fnTargetsOfIsWhatBarsEitherNameWrong)

end Rows
end Go.Proofs.Qxb6618027aMods
