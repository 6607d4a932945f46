/-
  No cell of these rows narrows 'for every input' (looked for: loops, veiled, ifaces, maps, wideKeys, modest, calm, conditions, laid).
  DERIVED. THE GIVEN ROWS OF THIS SEAT. 6 by the template 'for every input the law returns true; each argument reads behind the call as it read before'; 0 by the template 'total and deterministic' (their statements: Qxb6000660aModsTotals.lean).
  GIVEN WITH THE SEED: the statements are not yours to turn. If you find one false, say at which input.
  Laid BY PROGRAM, IN A SANDBOX (cutbox-rows.mjs): the forced cells as the released guide's own fill.sh prints them over the translation 5dcf6d5e667fbc0e… (all of the seat's roots in one cut). By AI agents, Wed Nov 11 2026. No macro, syntax, notation, axiom, sorry.
-/
import Derived.Test.Qxb6000660aModsChecked
import GoSem.Claim
import GoSem.ClaimJoined
import GoSem.ClaimMapViews
import Derived.JoinedTies
import Derived.KernelRfl
namespace Go.Proofs.Qxb6000660aMods
/- THE CELL 'sum', in the pinned program and in every row, IS THE sha256 OF THE DUMP (.gsa) THAT Qxb6000660aModsProg.lean LOADS. Nothing in Lean hashes anything: it is a label: what it is worth is what the hold of that sum in a sandbox is worth. -/
noncomputable def Trym.pinned : Pinned := { name := "qxb6000660amods", sum := "5dcf6d5e667fbc0e39e1bff9151e1d72af052a0c8714a408cd56560c8895ffa0", checked := Trym.checked }
namespace Rows
def none {H : Type} : Left H := { results := [], args := [] }

/-- 'zzlaws_root_b1.FnFairShareSumsToItems': WHATEVER THE INPUT: true; the input reads as it did. -/
def fnFairShareSumsToItemsSpec : ChangeSpec := { name := "fnFairShareSumsToItems", fn := fun _ => fun
  | [d1, d2] => { results := [.lit (.bool true)], args := [d1, d2] }
  | _ => none }
def fnFairShareSumsToItemsRow : OpenClaim := { program := "qxb6000660amods", sum := "5dcf6d5e667fbc0e39e1bff9151e1d72af052a0c8714a408cd56560c8895ffa0", func := "example.com/libinterlock/libinterlock/zzlaws_root_b1.FnFairShareSumsToItems", spec := "fnFairShareSumsToItems", make := .lifted ["publicsums"], apart := false }
def FnFairShareSumsToItemsSaid : Prop := fnFairShareSumsToItemsRow.holds Trym.pinned (OpenSpec.ofChange fnFairShareSumsToItemsSpec)

/-- ITS FALSE NEIGHBOUR: 'it returns false'. Refute it at one input. -/
def fnFairShareSumsToItemsWrong : ChangeSpec := { name := "fnFairShareSumsToItems", fn := fun _ => fun
  | [d1, d2] => { results := [.lit (.bool false)], args := [d1, d2] }
  | _ => none }
def FnFairShareSumsToItemsWrongFalsely : Prop := fnFairShareSumsToItemsRow.holds Trym.pinned (OpenSpec.ofChange fnFairShareSumsToItemsWrong)

/-- 'zzlaws_root_b1.FnFairShareOrderedWithinOne': WHATEVER THE INPUT: true; the input reads as it did. -/
def fnFairShareOrderedWithinOneSpec : ChangeSpec := { name := "fnFairShareOrderedWithinOne", fn := fun _ => fun
  | [d1, d2, d3, d4] => { results := [.lit (.bool true)], args := [d1, d2, d3, d4] }
  | _ => none }
def fnFairShareOrderedWithinOneRow : OpenClaim := { program := "qxb6000660amods", sum := "5dcf6d5e667fbc0e39e1bff9151e1d72af052a0c8714a408cd56560c8895ffa0", func := "example.com/libinterlock/libinterlock/zzlaws_root_b1.FnFairShareOrderedWithinOne", spec := "fnFairShareOrderedWithinOne", make := .lifted ["publicsums"], apart := false }
def FnFairShareOrderedWithinOneSaid : Prop := fnFairShareOrderedWithinOneRow.holds Trym.pinned (OpenSpec.ofChange fnFairShareOrderedWithinOneSpec)

/-- ITS FALSE NEIGHBOUR: 'it returns false'. Refute it at one input. -/
def fnFairShareOrderedWithinOneWrong : ChangeSpec := { name := "fnFairShareOrderedWithinOne", fn := fun _ => fun
  | [d1, d2, d3, d4] => { results := [.lit (.bool false)], args := [d1, d2, d3, d4] }
  | _ => none }
def FnFairShareOrderedWithinOneWrongFalsely : Prop := fnFairShareOrderedWithinOneRow.holds Trym.pinned (OpenSpec.ofChange fnFairShareOrderedWithinOneWrong)

/-- 'zzlaws_root_b1.FnFairShareMatchesRoundRobin': WHATEVER THE INPUT: true; the input reads as it did. -/
def fnFairShareMatchesRoundRobinSpec : ChangeSpec := { name := "fnFairShareMatchesRoundRobin", fn := fun _ => fun
  | [d1, d2, d3] => { results := [.lit (.bool true)], args := [d1, d2, d3] }
  | _ => none }
def fnFairShareMatchesRoundRobinRow : OpenClaim := { program := "qxb6000660amods", sum := "5dcf6d5e667fbc0e39e1bff9151e1d72af052a0c8714a408cd56560c8895ffa0", func := "example.com/libinterlock/libinterlock/zzlaws_root_b1.FnFairShareMatchesRoundRobin", spec := "fnFairShareMatchesRoundRobin", make := .lifted ["publicsums"], apart := false }
def FnFairShareMatchesRoundRobinSaid : Prop := fnFairShareMatchesRoundRobinRow.holds Trym.pinned (OpenSpec.ofChange fnFairShareMatchesRoundRobinSpec)

/-- ITS FALSE NEIGHBOUR: 'it returns false'. Refute it at one input. -/
def fnFairShareMatchesRoundRobinWrong : ChangeSpec := { name := "fnFairShareMatchesRoundRobin", fn := fun _ => fun
  | [d1, d2, d3] => { results := [.lit (.bool false)], args := [d1, d2, d3] }
  | _ => none }
def FnFairShareMatchesRoundRobinWrongFalsely : Prop := fnFairShareMatchesRoundRobinRow.holds Trym.pinned (OpenSpec.ofChange fnFairShareMatchesRoundRobinWrong)

/-- 'zzlaws_root_b1.FnReplicationMatchesInfoModel': WHATEVER THE INPUT: true; the input reads as it did. -/
def fnReplicationMatchesInfoModelSpec : ChangeSpec := { name := "fnReplicationMatchesInfoModel", fn := fun _ => fun
  | [d1, d2, d3] => { results := [.lit (.bool true)], args := [d1, d2, d3] }
  | _ => none }
def fnReplicationMatchesInfoModelRow : OpenClaim := { program := "qxb6000660amods", sum := "5dcf6d5e667fbc0e39e1bff9151e1d72af052a0c8714a408cd56560c8895ffa0", func := "example.com/libinterlock/libinterlock/zzlaws_root_b1.FnReplicationMatchesInfoModel", spec := "fnReplicationMatchesInfoModel", inPlace := ["internal/bytealg.IndexByteString", "internal/bytealg.IndexString"], unfollowed := true, recurses := true, named := ["internal/bytealg.MaxLen"], make := .lifted ["publicsums"], apart := false }
def FnReplicationMatchesInfoModelSaid : Prop := fnReplicationMatchesInfoModelRow.holds Trym.pinned (OpenSpec.ofChange fnReplicationMatchesInfoModelSpec)

/-- ITS FALSE NEIGHBOUR: 'it returns false'. Refute it at one input. -/
def fnReplicationMatchesInfoModelWrong : ChangeSpec := { name := "fnReplicationMatchesInfoModel", fn := fun _ => fun
  | [d1, d2, d3] => { results := [.lit (.bool false)], args := [d1, d2, d3] }
  | _ => none }
def FnReplicationMatchesInfoModelWrongFalsely : Prop := fnReplicationMatchesInfoModelRow.holds Trym.pinned (OpenSpec.ofChange fnReplicationMatchesInfoModelWrong)

/-- 'zzlaws_root_b1.FnReplicationOnlineAdds': WHATEVER THE INPUT: true; the input reads as it did. -/
def fnReplicationOnlineAddsSpec : ChangeSpec := { name := "fnReplicationOnlineAdds", fn := fun _ => fun
  | [d1, d2] => { results := [.lit (.bool true)], args := [d1, d2] }
  | _ => none }
def fnReplicationOnlineAddsRow : OpenClaim := { program := "qxb6000660amods", sum := "5dcf6d5e667fbc0e39e1bff9151e1d72af052a0c8714a408cd56560c8895ffa0", func := "example.com/libinterlock/libinterlock/zzlaws_root_b1.FnReplicationOnlineAdds", spec := "fnReplicationOnlineAdds", inPlace := ["internal/bytealg.IndexByteString", "internal/bytealg.IndexString"], unfollowed := true, recurses := true, named := ["internal/bytealg.MaxLen"], make := .lifted ["publicsums"], apart := false }
def FnReplicationOnlineAddsSaid : Prop := fnReplicationOnlineAddsRow.holds Trym.pinned (OpenSpec.ofChange fnReplicationOnlineAddsSpec)

/-- ITS FALSE NEIGHBOUR: 'it returns false'. Refute it at one input. -/
def fnReplicationOnlineAddsWrong : ChangeSpec := { name := "fnReplicationOnlineAdds", fn := fun _ => fun
  | [d1, d2] => { results := [.lit (.bool false)], args := [d1, d2] }
  | _ => none }
def FnReplicationOnlineAddsWrongFalsely : Prop := fnReplicationOnlineAddsRow.holds Trym.pinned (OpenSpec.ofChange fnReplicationOnlineAddsWrong)

/-- 'zzlaws_root_b1.FnReplicationLineEndingsAgree': WHATEVER THE INPUT: true; the input reads as it did. -/
def fnReplicationLineEndingsAgreeSpec : ChangeSpec := { name := "fnReplicationLineEndingsAgree", fn := fun _ => fun
  | [d] => { results := [.lit (.bool true)], args := [d] }
  | _ => none }
def fnReplicationLineEndingsAgreeRow : OpenClaim := { program := "qxb6000660amods", sum := "5dcf6d5e667fbc0e39e1bff9151e1d72af052a0c8714a408cd56560c8895ffa0", func := "example.com/libinterlock/libinterlock/zzlaws_root_b1.FnReplicationLineEndingsAgree", spec := "fnReplicationLineEndingsAgree", inPlace := ["internal/bytealg.IndexByteString", "internal/bytealg.IndexString"], unfollowed := true, recurses := true, named := ["internal/bytealg.MaxLen"], make := .lifted ["publicsums"], apart := false }
def FnReplicationLineEndingsAgreeSaid : Prop := fnReplicationLineEndingsAgreeRow.holds Trym.pinned (OpenSpec.ofChange fnReplicationLineEndingsAgreeSpec)

/-- ITS FALSE NEIGHBOUR: 'it returns false'. Refute it at one input. -/
def fnReplicationLineEndingsAgreeWrong : ChangeSpec := { name := "fnReplicationLineEndingsAgree", fn := fun _ => fun
  | [d] => { results := [.lit (.bool false)], args := [d] }
  | _ => none }
def FnReplicationLineEndingsAgreeWrongFalsely : Prop := fnReplicationLineEndingsAgreeRow.holds Trym.pinned (OpenSpec.ofChange fnReplicationLineEndingsAgreeWrong)

end Rows
end Go.Proofs.Qxb6000660aMods
