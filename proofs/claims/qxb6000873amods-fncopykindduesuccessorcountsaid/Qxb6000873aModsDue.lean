import Derived.Test.Qxb6000873aModsRows
import Derived.WalkKit
import Derived.ProofKit
import Derived.OpenShut
namespace Go.Proofs.Qxb6000873aMods
open Go.ChangeShapes Go.WideShapes Go.ChangeAt Go.RowKit

/-- What 'copyKindDue' answers. -/
def dueB (l k : Int) : Bool := (l == 75 && k == 72) || (l == 72 && k == 78) || ((l == 78 || l == 68) && (k == 68 || k == 78 || k == 90))

theorem ret_bool {a b : Bool} (h : a = b) : Ending.returned (.bool a) = .returned (.bool b) := by rw [h]

set_option maxHeartbeats 400000 in
theorem due_any (l k : Int) (w : World) :
    Calls Trym.prog 9 #[.int .u8 l, .int .u8 k] w fun e w' => e = .returned (.bool (dueB l k)) ∧ w' = w := by
  go_enter Trym.func9, Trym.ntmps9
  go_wp2
  all_goals go_ret
  all_goals (refine ⟨ret_bool ?_, rfl⟩; simp_all [dueB])

set_option maxHeartbeats 400000 in
theorem zdue_any (l k : Int) (w : World) :
    Calls Trym.prog 7 #[.int .u8 l, .int .u8 k] w fun e w' => e = .returned (.bool (dueB l k)) ∧ w' = w := by
  go_enter Trym.func7, Trym.ntmps7
  go_wp2_with (go_at_call 9; refine (due_any l k _).mono ?_; rintro e w' ⟨rfl, rfl⟩)
  go_ret
  exact ⟨rfl, rfl⟩

end Go.Proofs.Qxb6000873aMods
