import Derived.Test.Qxb6000660aModsRows
import Derived.WalkKit
import Derived.ProofKit
import Derived.OpenShut
namespace Go.Proofs.Qxb6000660aMods
open Go.ChangeShapes Go.WideShapes Go.ChangeAt Go.RowKit

/-! ### THE PLAIN SIDE -/

/-- What 'fairShare' answers. -/
def fairOf (n c r : Int) : Int := n / c + if r < n % c then 1 else 0

theorem fairOf_lt {n c r : Int} (h : r < n % c) : fairOf n c r = n / c + 1 := by
  unfold fairOf; rw [if_pos h]
theorem fairOf_ge {n c r : Int} (h : n % c ≤ r) : fairOf n c r = n / c := by
  unfold fairOf; rw [if_neg (by omega)]; omega

theorem quo_bd {n c : Int} (h0 : 0 ≤ n) (hc : 1 ≤ c) : 0 ≤ n / c ∧ n / c ≤ n ∧ 0 ≤ n % c ∧ n % c < c :=
  ⟨Int.ediv_nonneg h0 (by omega), Int.ediv_le_self _ h0, Int.emod_nonneg _ (by omega), Int.emod_lt_of_pos _ (by omega)⟩

theorem mul_bd (r c q : Int) (hq : 0 ≤ q) (h : r ≤ c) : r * q ≤ c * q := Int.mul_le_mul_of_nonneg_right h hq

/-- Where a rank gets one more, the quotient is below the items. -/
theorem quo_lt {n c r : Int} (h0 : 0 ≤ n) (hc : 1 ≤ c) (hr : 0 ≤ r) (h : r < n % c) : n / c + 1 ≤ n := by
  have e : n % c + c * (n / c) = n := Int.emod_add_mul_ediv n c
  have h1 : 0 ≤ n / c := Int.ediv_nonneg h0 (by omega)
  have h2 := mul_bd 1 c (n / c) h1 hc
  omega

theorem fairOf_bd {n c r : Int} (h0 : 0 ≤ n) (hc : 1 ≤ c) (hr : 0 ≤ r) : 0 ≤ fairOf n c r ∧ fairOf n c r ≤ n := by
  obtain ⟨b1, b2, b3, b4⟩ := quo_bd h0 hc
  by_cases h : r < n % c
  · rw [fairOf_lt h]; have := quo_lt h0 hc hr h; omega
  · rw [fairOf_ge (by omega)]; omega

theorem ret_int {k : IntKind} {a b : Int} (h : a = b) : Ending.returned (.int k a) = .returned (.int k b) := by rw [h]

/-! ### THE WALKS -/

set_option maxHeartbeats 400000 in
theorem share_any (n c r : Int) (w : World) (h0 : 0 ≤ n) (h1 : n ≤ 9223372036854775807) (hc : 1 ≤ c) (hc2 : c ≤ 9223372036854775807) (hr : 0 ≤ r) :
    Calls Trym.prog 16 #[.int .i64 n, .int .i64 c, .int .i64 r] w fun e w' => e = .returned (.int .i64 (fairOf n c r)) ∧ w' = w := by
  obtain ⟨b1, b2, b3, b4⟩ := quo_bd h0 hc
  by_cases h : r < n % c
  · have hq := quo_lt h0 hc hr h
    go_enter Trym.func16, Trym.ntmps16
    go_wp2
    go_ret
    exact ⟨ret_int (fairOf_lt h).symm, rfl⟩
  · have h' : n % c ≤ r := by omega
    go_enter Trym.func16, Trym.ntmps16
    go_wp2
    go_ret
    exact ⟨ret_int (fairOf_ge h').symm, rfl⟩

set_option maxHeartbeats 400000 in
theorem zshare_any (n c r : Int) (w : World) (h0 : 0 ≤ n) (h1 : n ≤ 9223372036854775807) (hc : 1 ≤ c) (hc2 : c ≤ 9223372036854775807) (hr : 0 ≤ r) :
    Calls Trym.prog 9 #[.int .i64 n, .int .i64 c, .int .i64 r] w fun e w' => e = .returned (.int .i64 (fairOf n c r)) ∧ w' = w := by
  go_enter Trym.func9, Trym.ntmps9
  go_wp2_with (go_at_call 16; refine (share_any n c r _ h0 h1 hc hc2 hr).mono ?_; rintro e w' ⟨rfl, rfl⟩)
  go_ret
  exact ⟨rfl, rfl⟩
end Go.Proofs.Qxb6000660aMods
