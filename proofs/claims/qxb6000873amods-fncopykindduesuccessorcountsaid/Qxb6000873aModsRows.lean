/-
  No cell of these rows narrows 'for every input' (looked for: loops, veiled, ifaces, maps, wideKeys, modest, calm, conditions, laid).
  DERIVED. THE GIVEN ROWS OF THIS SEAT. 3 by the template 'for every input the law returns true; each argument reads behind the call as it read before'; 0 by the template 'total and deterministic' (their statements: Qxb6000873aModsTotals.lean).
  GIVEN WITH THE SEED: the statements are not yours to turn. If you find one false, say at which input.
  Laid BY PROGRAM, IN A SANDBOX (cutbox-rows.mjs): the forced cells as the released guide's own fill.sh prints them over the translation d24cc8d4f3a8409f… (all of the seat's roots in one cut). By AI agents, Wed Nov 11 2026. No macro, syntax, notation, axiom, sorry.
-/
import Derived.Test.Qxb6000873aModsChecked
import GoSem.Claim
import GoSem.ClaimJoined
import GoSem.ClaimMapViews
import Derived.JoinedTies
import Derived.KernelRfl
namespace Go.Proofs.Qxb6000873aMods
/- THE CELL 'sum', in the pinned program and in every row, IS THE sha256 OF THE DUMP (.gsa) THAT Qxb6000873aModsProg.lean LOADS. Nothing in Lean hashes anything: it is a label: what it is worth is what the hold of that sum in a sandbox is worth. -/
noncomputable def Trym.pinned : Pinned := { name := "qxb6000873amods", sum := "d24cc8d4f3a8409fa2c4085012d0f8b339a168b132682526443d333346478f89", checked := Trym.checked }
namespace Rows
def none {H : Type} : Left H := { results := [], args := [] }

/-- 'zzlaws_store_b1.FnCopyKindDueChainsMatchTheCopyGrammar': WHATEVER THE INPUT: true; the input reads as it did. -/
def fnCopyKindDueChainsMatchTheCopyGrammarSpec : ChangeSpec := { name := "fnCopyKindDueChainsMatchTheCopyGrammar", fn := fun _ => fun
  | [d] => { results := [.lit (.bool true)], args := [d] }
  | _ => none }
def fnCopyKindDueChainsMatchTheCopyGrammarRow : OpenClaim := { program := "qxb6000873amods", sum := "d24cc8d4f3a8409fa2c4085012d0f8b339a168b132682526443d333346478f89", func := "example.com/secondfold/secondfold/zzlaws_store_b1.FnCopyKindDueChainsMatchTheCopyGrammar", spec := "fnCopyKindDueChainsMatchTheCopyGrammar", make := .lifted ["publicsums"], apart := false }
def FnCopyKindDueChainsMatchTheCopyGrammarSaid : Prop := fnCopyKindDueChainsMatchTheCopyGrammarRow.holds Trym.pinned (OpenSpec.ofChange fnCopyKindDueChainsMatchTheCopyGrammarSpec)

/-- ITS FALSE NEIGHBOUR: 'it returns false'. Refute it at one input. -/
def fnCopyKindDueChainsMatchTheCopyGrammarWrong : ChangeSpec := { name := "fnCopyKindDueChainsMatchTheCopyGrammar", fn := fun _ => fun
  | [d] => { results := [.lit (.bool false)], args := [d] }
  | _ => none }
def FnCopyKindDueChainsMatchTheCopyGrammarWrongFalsely : Prop := fnCopyKindDueChainsMatchTheCopyGrammarRow.holds Trym.pinned (OpenSpec.ofChange fnCopyKindDueChainsMatchTheCopyGrammarWrong)

/-- 'zzlaws_store_b1.FnCopyKindDueEpochNeverDueEndFinal': WHATEVER THE INPUT: true; the input reads as it did. -/
def fnCopyKindDueEpochNeverDueEndFinalSpec : ChangeSpec := { name := "fnCopyKindDueEpochNeverDueEndFinal", fn := fun _ => fun
  | [d1, d2] => { results := [.lit (.bool true)], args := [d1, d2] }
  | _ => none }
def fnCopyKindDueEpochNeverDueEndFinalRow : OpenClaim := { program := "qxb6000873amods", sum := "d24cc8d4f3a8409fa2c4085012d0f8b339a168b132682526443d333346478f89", func := "example.com/secondfold/secondfold/zzlaws_store_b1.FnCopyKindDueEpochNeverDueEndFinal", spec := "fnCopyKindDueEpochNeverDueEndFinal", make := .lifted ["publicsums"], apart := false }
def FnCopyKindDueEpochNeverDueEndFinalSaid : Prop := fnCopyKindDueEpochNeverDueEndFinalRow.holds Trym.pinned (OpenSpec.ofChange fnCopyKindDueEpochNeverDueEndFinalSpec)

/-- ITS FALSE NEIGHBOUR: 'it returns false'. Refute it at one input. -/
def fnCopyKindDueEpochNeverDueEndFinalWrong : ChangeSpec := { name := "fnCopyKindDueEpochNeverDueEndFinal", fn := fun _ => fun
  | [d1, d2] => { results := [.lit (.bool false)], args := [d1, d2] }
  | _ => none }
def FnCopyKindDueEpochNeverDueEndFinalWrongFalsely : Prop := fnCopyKindDueEpochNeverDueEndFinalRow.holds Trym.pinned (OpenSpec.ofChange fnCopyKindDueEpochNeverDueEndFinalWrong)

/-- 'zzlaws_store_b1.FnCopyKindDueSuccessorCount': WHATEVER THE INPUT: true; the input reads as it did. -/
def fnCopyKindDueSuccessorCountSpec : ChangeSpec := { name := "fnCopyKindDueSuccessorCount", fn := fun _ => fun
  | [d] => { results := [.lit (.bool true)], args := [d] }
  | _ => none }
def fnCopyKindDueSuccessorCountRow : OpenClaim := { program := "qxb6000873amods", sum := "d24cc8d4f3a8409fa2c4085012d0f8b339a168b132682526443d333346478f89", func := "example.com/secondfold/secondfold/zzlaws_store_b1.FnCopyKindDueSuccessorCount", spec := "fnCopyKindDueSuccessorCount", make := .lifted ["publicsums"], apart := false }
def FnCopyKindDueSuccessorCountSaid : Prop := fnCopyKindDueSuccessorCountRow.holds Trym.pinned (OpenSpec.ofChange fnCopyKindDueSuccessorCountSpec)

/-- ITS FALSE NEIGHBOUR: 'it returns false'. Refute it at one input. -/
def fnCopyKindDueSuccessorCountWrong : ChangeSpec := { name := "fnCopyKindDueSuccessorCount", fn := fun _ => fun
  | [d] => { results := [.lit (.bool false)], args := [d] }
  | _ => none }
def FnCopyKindDueSuccessorCountWrongFalsely : Prop := fnCopyKindDueSuccessorCountRow.holds Trym.pinned (OpenSpec.ofChange fnCopyKindDueSuccessorCountWrong)

end Rows
end Go.Proofs.Qxb6000873aMods
