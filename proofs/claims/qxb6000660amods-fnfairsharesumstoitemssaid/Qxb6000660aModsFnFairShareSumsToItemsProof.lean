import Derived.Test.Qxb6000660aModsRows
import Derived.Test.Qxb6000660aModsShare
import Derived.WalkKit
import Derived.ProofKit
import Derived.OpenShut
import Derived.ShutString
namespace Go.Proofs.Qxb6000660aMods.fnFairShareSumsToItems
open Go.ChangeShapes Go.WideShapes Go.ChangeAt Go.RowKit
open Go.ChangeMaps (open_string shut_string)
set_option linter.unusedVariables false      -- a walk need not use every 'w<i>' (that an integer argument fits its kind)

theorem own : ownKnob Trym.prog.godebug = none := by kernel_rfl

/-! ### THE PLAIN SIDE -/

/-- The shares of the ranks below k, added up. -/
def psum (n c k : Int) : Int := k * (n / c) + if k < n % c then k else n % c

theorem psum_zero {n c : Int} (h0 : 0 ≤ n) (hc : 1 ≤ c) : psum n c 0 = 0 := by
  obtain ⟨b1, b2, b3, b4⟩ := quo_bd h0 hc
  unfold psum; split <;> omega
theorem psum_succ (n c k : Int) : psum n c (k + 1) = psum n c k + fairOf n c k := by
  unfold psum fairOf
  have e : (k + 1) * (n / c) = k * (n / c) + n / c := by rw [Int.add_mul, Int.one_mul]
  rw [e]
  split <;> split <;> omega
theorem psum_all {n c : Int} (h0 : 0 ≤ n) (hc : 1 ≤ c) : psum n c c = n := by
  obtain ⟨b1, b2, b3, b4⟩ := quo_bd h0 hc
  have e : n % c + c * (n / c) = n := Int.emod_add_mul_ediv n c
  unfold psum; rw [if_neg (by omega)]; omega
theorem psum_bd {n c k : Int} (h0 : 0 ≤ n) (hc : 1 ≤ c) (hk : 0 ≤ k) (hkc : k ≤ c) : 0 ≤ psum n c k ∧ psum n c k ≤ n := by
  obtain ⟨b1, b2, b3, b4⟩ := quo_bd h0 hc
  have e : n % c + c * (n / c) = n := Int.emod_add_mul_ediv n c
  have h1 := mul_bd k c (n / c) b1 hkc
  have h2 := mul_bd 0 k (n / c) b1 hk
  rw [Int.zero_mul] at h2
  unfold psum; split <;> omega

/-! ### THE WALK -/

set_option maxHeartbeats 400000 in
theorem walk_in (n c : Int) (w : World) (h0 : 0 ≤ n) (h1 : n ≤ 9223372036854775807) (hc : 1 ≤ c) (hc2 : c ≤ 65536) :
    Calls Trym.prog 3 #[.int .i64 n, .int .i64 c] w fun e w' => e = .returned (.bool true) ∧ w' = w := by
  go_enter Trym.func3, Trym.ntmps3
  go_wp2
  go_loop [5, 6] (fun t i => ∃ k : Nat, (k : Int) ≤ c ∧ i = .int .i64 k ∧ t = .int .i64 (psum n c k)) (fun _ i => c.toNat - (intOf i).toNat)
  case atStart => exact ⟨0, by omega, rfl, by rw [show ((0 : Nat) : Int) = 0 from rfl, psum_zero h0 hc]⟩
  case round =>
    obtain ⟨k, hk, rfl, rfl⟩ := hrel
    obtain ⟨p1, p2⟩ := psum_bd (k := (k : Int)) h0 hc (by omega) hk
    by_cases hlt : (k : Int) < c
    · have HS : Hid (psum n c ((k : Int) + 1) = psum n c k + fairOf n c k) := psum_succ n c k
      obtain ⟨q1, q2⟩ := psum_bd (k := (k : Int) + 1) h0 hc (by omega) (by omega)
      rw [HS.out] at q1 q2
      obtain ⟨f1, f2⟩ := fairOf_bd (r := (k : Int)) h0 hc (by omega)
      go_wp2_with (go_at_call 9; refine (zshare_any n c k _ h0 h1 hc (by omega) (by omega)).mono ?_; rintro e w' ⟨rfl, rfl⟩)
      go_round
      case rel => exact ⟨k + 1, by omega, by go_num, by rw [show ((k + 1 : Nat) : Int) = (k : Int) + 1 from by omega, HS.out]⟩
      case measure => simp [intOf]; omega
    · have HE : Hid (psum n c k = n) := by
        have : (k : Int) = c := by omega
        rw [this]; exact psum_all h0 hc
      go_wp2
      go_ret
      rw [HE.out]
      exact ⟨by simp, rfl⟩

set_option maxHeartbeats 400000 in
theorem walk (a0 : Int) (a1 : Int) (w0 : (Lit.int .i64 a0).wf = true) (w1 : (Lit.int .i64 a1).wf = true) (w : World) :
    Calls Trym.prog 3 #[.int .i64 a0, .int .i64 a1] w fun e w' => e = .returned (.bool true) ∧ Grown w w' := by
  have b0 := bounds_i64 w0
  have b1 := bounds_i64 w1
  by_cases h : 0 ≤ a0 ∧ 1 ≤ a1 ∧ a1 ≤ 65536
  · obtain ⟨h1, h2, h3⟩ := h
    refine (walk_in a0 a1 w h1 (by omega) h2 h3).mono ?_
    rintro e w' ⟨rfl, rfl⟩
    exact ⟨rfl, Grown.refl _⟩
  · by_cases h1 : a0 < 0
    · go_enter Trym.func3, Trym.ntmps3
      go_wp2
      go_ret
      exact ⟨rfl, Grown.refl _⟩
    · by_cases h2 : a1 < 1
      · go_enter Trym.func3, Trym.ntmps3
        go_wp2
        go_ret
        exact ⟨rfl, Grown.refl _⟩
      · have h3 : 65536 < a1 := by omega
        go_enter Trym.func3, Trym.ntmps3
        go_wp2
        go_ret
        exact ⟨rfl, Grown.refl _⟩

/-! ### THE ROW's STEP: WRITTEN OUT: LEAVE IT -/
set_option maxRecDepth 100000 in
theorem lifted (os : Os) (started : os.Started) (H : Type) (enc : TypeId × Value → H) :
    ReturnsInHanded {} Trym.checked os 3 .any (Rows.fnFairShareSumsToItemsSpec.pre6 enc Trym.prog Trym.f3 Rows.fnFairShareSumsToItemsRow.domain false) (Rows.fnFairShareSumsToItemsSpec.post enc Trym.prog Trym.f3 false true false false) := by
  refine returnsInHanded_of_change (C := Trym.checked) own started (by kernel_rfl) Trym.func3
    (ChangeSpec.witness6 (enc := enc) (C := Trym.checked) false ⟨#[], #[.int .i64 0, .int .i64 0], []⟩ 8 (by kernel_rfl) (by kernel_rfl) (by kernel_rfl) (by kernel_rfl)) ?_
  intro W base args ds gs before hval0 hW hcnd _
  have hval : ∀ (j : Nat) t v, Trym.f3.params[j]? = some t → args[j]? = some v → Value.okWide Trym.prog W .any base t v := hval0
  have hW' := hW
  obtain ⟨p, q, hA0, hV, rfl, hfz, hnd⟩ := hW
  have hA : DataW.TrodAll enc Trym.prog W 0 (fun _ => true) true Trym.f3.params.toList args.toList ds p := hA0
  rw [Trym.params3] at hA hval
  obtain ⟨v0, vs0, d0, ds0, p0, q0, hargs, rfl, rfl, h0, r0⟩ := trodAll_cons hA
  obtain ⟨v1, vs1, d1, ds1, p1, q1, rfl, rfl, rfl, h1, r1⟩ := trodAll_cons r0
  obtain ⟨rfl, rfl, rfl⟩ := trodAll_nil r1
  obtain rfl : args = #[v0, v1] := by cases args; simp_all
  obtain ⟨rfl, rfl⟩ := trodVars_none hV
  obtain ⟨a0, rfl, rfl, rfl, w0⟩ := open_int Trym.underlying3 (hval 0 3 v0 rfl rfl) h0
  obtain ⟨a1, rfl, rfl, rfl, w1⟩ := open_int Trym.underlying3 (hval 1 3 v1 rfl rfl) h1
  clear hA0 hval0
  simp only [List.append_nil] at hW'
  refine (walk a0 a1 w0 w1 W).mono fun e W' ⟨he, hg⟩ => ?_
  subst he
  exact ⟨_, rfl, post_of_same (pa := []) (pv := []) hW' (fun _ _ _ => (trodAll_cons_mk (shut_bool Trym.underlying4 _) trodAll_mk0)) (fun sp _ => (trodAll_cons_mk (shut_int Trym.underlying3 w0) (trodAll_cons_mk (shut_int Trym.underlying3 w1) trodAll_mk0))) (fun _ _ => rfl) rfl
    (hg.frame _) hg.2.1 (ok_one (by kernel_rfl) rfl (okWide_bool_mk Trym.underlying4 _))⟩

theorem over : Rows.fnFairShareSumsToItemsRow.holds Trym.pinned (OpenSpec.ofChange Rows.fnFairShareSumsToItemsSpec) :=
  OpenClaim.holds_of_wide 3 Trym.f3 rfl rfl rfl rfl rfl rfl rfl ⟨rfl, rfl, rfl, rfl, rfl⟩ rfl rfl rfl rfl rfl (by kernel_rfl) Trym.func3 (by kernel_rfl)
    (of_decide_eq_true (by kernel_rfl)) (by unfold Func.isWrapper; first | (rw [if_pos (by decide +kernel)]; kernel_rfl) | (rw [if_neg (by decide +kernel)]; exact ⟨rfl, rfl⟩))
    (fun os started H enc _ => lifted os started H enc)

/-- ████ THE STATEMENT ████ -/
theorem proved : Rows.FnFairShareSumsToItemsSaid :=
  over
end Go.Proofs.Qxb6000660aMods.fnFairShareSumsToItems
