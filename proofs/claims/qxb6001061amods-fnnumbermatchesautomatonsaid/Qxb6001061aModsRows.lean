/-
  No cell of these rows narrows 'for every input' (looked for: loops, veiled, ifaces, maps, wideKeys, modest, calm, conditions, laid).
  DERIVED. THE GIVEN ROWS OF THIS SEAT. 4 by the template 'for every input the law returns true; each argument reads behind the call as it read before'; 0 by the template 'total and deterministic' (their statements: Qxb6001061aModsTotals.lean).
  GIVEN WITH THE SEED: the statements are not yours to turn. If you find one false, say at which input.
  Laid BY PROGRAM, IN A SANDBOX (cutbox-rows.mjs): the forced cells as the released guide's own fill.sh prints them over the translation 42a0b69547793413… (all of the seat's roots in one cut). By AI agents, Wed Nov 11 2026. No macro, syntax, notation, axiom, sorry.
-/
import Derived.Test.Qxb6001061aModsChecked
import GoSem.Claim
import GoSem.ClaimJoined
import GoSem.ClaimMapViews
import Derived.JoinedTies
import Derived.KernelRfl
namespace Go.Proofs.Qxb6001061aMods
/- THE CELL 'sum', in the pinned program and in every row, IS THE sha256 OF THE DUMP (.gsa) THAT Qxb6001061aModsProg.lean LOADS. Nothing in Lean hashes anything: it is a label: what it is worth is what the hold of that sum in a sandbox is worth. -/
noncomputable def Trym.pinned : Pinned := { name := "qxb6001061amods", sum := "42a0b695477934133ec89253336567c90df952333415af2fd7a8874b4116839a", checked := Trym.checked }
namespace Rows
def none {H : Type} : Left H := { results := [], args := [] }

/-- 'zzlaws_pkg_snapshot_b1.FnNumberMatchesAutomaton': WHATEVER THE INPUT: true; the input reads as it did. -/
def fnNumberMatchesAutomatonSpec : ChangeSpec := { name := "fnNumberMatchesAutomaton", fn := fun _ => fun
  | [d1, d2] => { results := [.lit (.bool true)], args := [d1, d2] }
  | _ => none }
def fnNumberMatchesAutomatonRow : OpenClaim := { program := "qxb6001061amods", sum := "42a0b695477934133ec89253336567c90df952333415af2fd7a8874b4116839a", func := "example.com/ebbtide/ebbtide/zzlaws_pkg_snapshot_b1.FnNumberMatchesAutomaton", spec := "fnNumberMatchesAutomaton", make := .lifted ["publicsums"], apart := false }
def FnNumberMatchesAutomatonSaid : Prop := fnNumberMatchesAutomatonRow.holds Trym.pinned (OpenSpec.ofChange fnNumberMatchesAutomatonSpec)

/-- ITS FALSE NEIGHBOUR: 'it returns false'. Refute it at one input. -/
def fnNumberMatchesAutomatonWrong : ChangeSpec := { name := "fnNumberMatchesAutomaton", fn := fun _ => fun
  | [d1, d2] => { results := [.lit (.bool false)], args := [d1, d2] }
  | _ => none }
def FnNumberMatchesAutomatonWrongFalsely : Prop := fnNumberMatchesAutomatonRow.holds Trym.pinned (OpenSpec.ofChange fnNumberMatchesAutomatonWrong)

/-- 'zzlaws_pkg_snapshot_b1.FnNumberBoundsAndLastDigit': WHATEVER THE INPUT: true; the input reads as it did. -/
def fnNumberBoundsAndLastDigitSpec : ChangeSpec := { name := "fnNumberBoundsAndLastDigit", fn := fun _ => fun
  | [d1, d2] => { results := [.lit (.bool true)], args := [d1, d2] }
  | _ => none }
def fnNumberBoundsAndLastDigitRow : OpenClaim := { program := "qxb6001061amods", sum := "42a0b695477934133ec89253336567c90df952333415af2fd7a8874b4116839a", func := "example.com/ebbtide/ebbtide/zzlaws_pkg_snapshot_b1.FnNumberBoundsAndLastDigit", spec := "fnNumberBoundsAndLastDigit", make := .lifted ["publicsums"], apart := false }
def FnNumberBoundsAndLastDigitSaid : Prop := fnNumberBoundsAndLastDigitRow.holds Trym.pinned (OpenSpec.ofChange fnNumberBoundsAndLastDigitSpec)

/-- ITS FALSE NEIGHBOUR: 'it returns false'. Refute it at one input. -/
def fnNumberBoundsAndLastDigitWrong : ChangeSpec := { name := "fnNumberBoundsAndLastDigit", fn := fun _ => fun
  | [d1, d2] => { results := [.lit (.bool false)], args := [d1, d2] }
  | _ => none }
def FnNumberBoundsAndLastDigitWrongFalsely : Prop := fnNumberBoundsAndLastDigitRow.holds Trym.pinned (OpenSpec.ofChange fnNumberBoundsAndLastDigitWrong)

/-- 'zzlaws_pkg_snapshot_b1.FnNumberLocal': WHATEVER THE INPUT: true; the input reads as it did. -/
def fnNumberLocalSpec : ChangeSpec := { name := "fnNumberLocal", fn := fun _ => fun
  | [d1, d2] => { results := [.lit (.bool true)], args := [d1, d2] }
  | _ => none }
def fnNumberLocalRow : OpenClaim := { program := "qxb6001061amods", sum := "42a0b695477934133ec89253336567c90df952333415af2fd7a8874b4116839a", func := "example.com/ebbtide/ebbtide/zzlaws_pkg_snapshot_b1.FnNumberLocal", spec := "fnNumberLocal", make := .lifted ["publicsums"], apart := false }
def FnNumberLocalSaid : Prop := fnNumberLocalRow.holds Trym.pinned (OpenSpec.ofChange fnNumberLocalSpec)

/-- ITS FALSE NEIGHBOUR: 'it returns false'. Refute it at one input. -/
def fnNumberLocalWrong : ChangeSpec := { name := "fnNumberLocal", fn := fun _ => fun
  | [d1, d2] => { results := [.lit (.bool false)], args := [d1, d2] }
  | _ => none }
def FnNumberLocalWrongFalsely : Prop := fnNumberLocalRow.holds Trym.pinned (OpenSpec.ofChange fnNumberLocalWrong)

/-- 'zzlaws_pkg_snapshot_b1.FnNumberAcceptsRendered': WHATEVER THE INPUT: true; the input reads as it did. -/
def fnNumberAcceptsRenderedSpec : ChangeSpec := { name := "fnNumberAcceptsRendered", fn := fun _ => fun
  | [d1, d2, d3, d4, d5, d6, d7, d8, d9] => { results := [.lit (.bool true)], args := [d1, d2, d3, d4, d5, d6, d7, d8, d9] }
  | _ => none }
def fnNumberAcceptsRenderedRow : OpenClaim := { program := "qxb6001061amods", sum := "42a0b695477934133ec89253336567c90df952333415af2fd7a8874b4116839a", func := "example.com/ebbtide/ebbtide/zzlaws_pkg_snapshot_b1.FnNumberAcceptsRendered", spec := "fnNumberAcceptsRendered", make := .lifted ["publicsums"], apart := false }
def FnNumberAcceptsRenderedSaid : Prop := fnNumberAcceptsRenderedRow.holds Trym.pinned (OpenSpec.ofChange fnNumberAcceptsRenderedSpec)

/-- ITS FALSE NEIGHBOUR: 'it returns false'. Refute it at one input. -/
def fnNumberAcceptsRenderedWrong : ChangeSpec := { name := "fnNumberAcceptsRendered", fn := fun _ => fun
  | [d1, d2, d3, d4, d5, d6, d7, d8, d9] => { results := [.lit (.bool false)], args := [d1, d2, d3, d4, d5, d6, d7, d8, d9] }
  | _ => none }
def FnNumberAcceptsRenderedWrongFalsely : Prop := fnNumberAcceptsRenderedRow.holds Trym.pinned (OpenSpec.ofChange fnNumberAcceptsRenderedWrong)

end Rows
end Go.Proofs.Qxb6001061aMods
