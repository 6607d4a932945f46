/-
  No cell of these rows narrows 'for every input' (looked for: loops, veiled, ifaces, maps, wideKeys, modest, calm, conditions, laid).
  DERIVED. THE GIVEN ROWS OF THIS SEAT. 2 by the template 'for every input the law returns true; each argument reads behind the call as it read before'; 0 by the template 'total and deterministic' (their statements: Qxb6001486aModsTotals.lean).
  GIVEN WITH THE SEED: the statements are not yours to turn. If you find one false, say at which input.
  Laid BY PROGRAM, IN A SANDBOX (cutbox-rows.mjs): the forced cells as the released guide's own fill.sh prints them over the translation 5491614f95de802e… (all of the seat's roots in one cut). By AI agents, Wed Nov 11 2026. No macro, syntax, notation, axiom, sorry.
-/
import Derived.Test.Qxb6001486aModsChecked
import GoSem.Claim
import GoSem.ClaimJoined
import GoSem.ClaimMapViews
import Derived.JoinedTies
import Derived.KernelRfl
namespace Go.Proofs.Qxb6001486aMods
/- THE CELL 'sum', in the pinned program and in every row, IS THE sha256 OF THE DUMP (.gsa) THAT Qxb6001486aModsProg.lean LOADS. Nothing in Lean hashes anything: it is a label: what it is worth is what the hold of that sum in a sandbox is worth. -/
noncomputable def Trym.pinned : Pinned := { name := "qxb6001486amods", sum := "5491614f95de802e2c4bf8ad8fe485c8376d0133f0049333f385d4946c7fc455", checked := Trym.checked }
namespace Rows
def none {H : Type} : Left H := { results := [], args := [] }

/-- 'zzlaws_root_b1.FnMakePlaceJumpsSkewBinary': WHATEVER THE INPUT: true; the input reads as it did. -/
def fnMakePlaceJumpsSkewBinarySpec : ChangeSpec := { name := "fnMakePlaceJumpsSkewBinary", fn := fun _ => fun
  | [d] => { results := [.lit (.bool true)], args := [d] }
  | _ => none }
def fnMakePlaceJumpsSkewBinaryRow : OpenClaim := { program := "qxb6001486amods", sum := "5491614f95de802e2c4bf8ad8fe485c8376d0133f0049333f385d4946c7fc455", func := "example.com/fixed-chain/fixed-chain/zzlaws_root_b1.FnMakePlaceJumpsSkewBinary", spec := "fnMakePlaceJumpsSkewBinary", make := .lifted ["publicsums"], apart := false }
def FnMakePlaceJumpsSkewBinarySaid : Prop := fnMakePlaceJumpsSkewBinaryRow.holds Trym.pinned (OpenSpec.ofChange fnMakePlaceJumpsSkewBinarySpec)

/-- ITS FALSE NEIGHBOUR: 'it returns false'. Refute it at one input. -/
def fnMakePlaceJumpsSkewBinaryWrong : ChangeSpec := { name := "fnMakePlaceJumpsSkewBinary", fn := fun _ => fun
  | [d] => { results := [.lit (.bool false)], args := [d] }
  | _ => none }
def FnMakePlaceJumpsSkewBinaryWrongFalsely : Prop := fnMakePlaceJumpsSkewBinaryRow.holds Trym.pinned (OpenSpec.ofChange fnMakePlaceJumpsSkewBinaryWrong)

/-- 'zzlaws_root_b1.FnMakePlaceWalkUpIsLogarithmic': WHATEVER THE INPUT: true; the input reads as it did. -/
def fnMakePlaceWalkUpIsLogarithmicSpec : ChangeSpec := { name := "fnMakePlaceWalkUpIsLogarithmic", fn := fun _ => fun
  | [d1, d2] => { results := [.lit (.bool true)], args := [d1, d2] }
  | _ => none }
def fnMakePlaceWalkUpIsLogarithmicRow : OpenClaim := { program := "qxb6001486amods", sum := "5491614f95de802e2c4bf8ad8fe485c8376d0133f0049333f385d4946c7fc455", func := "example.com/fixed-chain/fixed-chain/zzlaws_root_b1.FnMakePlaceWalkUpIsLogarithmic", spec := "fnMakePlaceWalkUpIsLogarithmic", make := .lifted ["publicsums"], apart := false }
def FnMakePlaceWalkUpIsLogarithmicSaid : Prop := fnMakePlaceWalkUpIsLogarithmicRow.holds Trym.pinned (OpenSpec.ofChange fnMakePlaceWalkUpIsLogarithmicSpec)

/-- ITS FALSE NEIGHBOUR: 'it returns false'. Refute it at one input. -/
def fnMakePlaceWalkUpIsLogarithmicWrong : ChangeSpec := { name := "fnMakePlaceWalkUpIsLogarithmic", fn := fun _ => fun
  | [d1, d2] => { results := [.lit (.bool false)], args := [d1, d2] }
  | _ => none }
def FnMakePlaceWalkUpIsLogarithmicWrongFalsely : Prop := fnMakePlaceWalkUpIsLogarithmicRow.holds Trym.pinned (OpenSpec.ofChange fnMakePlaceWalkUpIsLogarithmicWrong)

end Rows
end Go.Proofs.Qxb6001486aMods
