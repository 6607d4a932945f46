import Derived.Test.Qxb6000660aModsRows
import Derived.Test.Qxb6000660aModsShare
import Derived.WalkKit
import Derived.ProofKit
import Derived.OpenShut
import Derived.ShutString
namespace Go.Proofs.Qxb6000660aMods.fnFairShareMatchesRoundRobin
open Go.ChangeShapes Go.WideShapes Go.ChangeAt Go.RowKit
open Go.ChangeMaps (open_string shut_string)
set_option linter.unusedVariables false      -- a walk need not use every 'w<i>' (that an integer argument fits its kind)

theorem own : ownKnob Trym.prog.godebug = none := by kernel_rfl

/-! ### THE PLAIN SIDE -/

theorem fair_zero {c r : Int} (hr : 0 ≤ r) : fairOf 0 c r = 0 := by
  rw [fairOf_ge (by simpa using hr)]; simp

theorem quo_rem_of {k c q m : Int} (hc : 1 ≤ c) (e : k = m + c * q) (h0 : 0 ≤ m) (h1 : m < c) : k / c = q ∧ k % c = m := by
  subst e
  constructor
  · rw [Int.add_mul_ediv_left _ _ (by omega), Int.ediv_eq_zero_of_lt h0 h1]; omega
  · rw [Int.add_mul_emod_self_left, Int.emod_eq_of_lt h0 h1]

theorem quo_rem_succ {k c : Int} (h0 : 0 ≤ k) (hc : 1 ≤ c) :
    (k % c + 1 < c ∧ (k + 1) / c = k / c ∧ (k + 1) % c = k % c + 1) ∨ (k % c + 1 = c ∧ (k + 1) / c = k / c + 1 ∧ (k + 1) % c = 0) := by
  obtain ⟨b1, b2, b3, b4⟩ := quo_bd h0 hc
  have e : k % c + c * (k / c) = k := Int.emod_add_mul_ediv k c
  by_cases h : k % c + 1 < c
  · left
    have := quo_rem_of (k := k + 1) (q := k / c) (m := k % c + 1) hc (by omega) (by omega) h
    exact ⟨h, this.1, this.2⟩
  · right
    have e2 : c * (k / c + 1) = c * (k / c) + c := by rw [Int.mul_add, Int.mul_one]
    have := quo_rem_of (k := k + 1) (q := k / c + 1) (m := 0) hc (by omega) (by omega) (by omega)
    exact ⟨by omega, this.1, this.2⟩

theorem fair_hit {k c r : Int} (h0 : 0 ≤ k) (hc : 1 ≤ c) (hr : 0 ≤ r) (h : k % c = r) : fairOf (k + 1) c r = fairOf k c r + 1 := by
  rcases quo_rem_succ h0 hc with ⟨a, b, d⟩ | ⟨a, b, d⟩
  · rw [fairOf_lt (by omega), fairOf_ge (by omega), b]
  · rw [fairOf_ge (by omega), fairOf_ge (by omega), b]

theorem fair_miss {k c r : Int} (h0 : 0 ≤ k) (hc : 1 ≤ c) (hr : 0 ≤ r) (hrc : r < c) (h : ¬ k % c = r) : fairOf (k + 1) c r = fairOf k c r := by
  rcases quo_rem_succ h0 hc with ⟨a, b, d⟩ | ⟨a, b, d⟩
  · by_cases hl : r < k % c
    · rw [fairOf_lt (by omega), fairOf_lt hl, b]
    · rw [fairOf_ge (by omega), fairOf_ge (by omega), b]
  · rw [fairOf_ge (by omega), fairOf_lt (by omega), b]

/-! ### THE WALK -/

set_option maxHeartbeats 400000 in
theorem walk_in (n c r : Int) (w : World) (h0 : 0 ≤ n) (h1 : n ≤ 65536) (hc : 1 ≤ c) (hc2 : c ≤ 9223372036854775807) (hr : 0 ≤ r) (hrc : r < c) :
    Calls Trym.prog 5 #[.int .i64 n, .int .i64 c, .int .i64 r] w fun e w' => e = .returned (.bool true) ∧ w' = w := by
  go_enter Trym.func5, Trym.ntmps5
  go_wp2
  go_loop [7, 8] (fun t i => ∃ k : Nat, (k : Int) ≤ n ∧ i = .int .i64 k ∧ t = .int .i64 (fairOf k c r)) (fun _ i => n.toNat - (intOf i).toNat)
  case atStart => exact ⟨0, by omega, rfl, by rw [show ((0 : Nat) : Int) = 0 from rfl, fair_zero hr]⟩
  case round =>
    obtain ⟨k, hk, rfl, rfl⟩ := hrel
    obtain ⟨p1, p2⟩ := fairOf_bd (n := (k : Int)) (r := r) (by omega) hc hr
    obtain ⟨b1, b2, b3, b4⟩ := quo_bd (n := (k : Int)) (by omega) hc
    by_cases hlt : (k : Int) < n
    · by_cases hm : (k : Int) % c = r
      · have HS : Hid (fairOf ((k : Int) + 1) c r = fairOf k c r + 1) := fair_hit (by omega) hc hr hm
        have hb : ((k : Int) % c == r) = true := by simpa using hm
        clear hm
        go_wp2
        go_round
        case rel => exact ⟨k + 1, by omega, by go_num, by rw [show ((k + 1 : Nat) : Int) = (k : Int) + 1 from by omega, HS.out]⟩
        case measure => simp [intOf]; omega
      · have HS : Hid (fairOf ((k : Int) + 1) c r = fairOf k c r) := fair_miss (by omega) hc hr hrc hm
        have hb : ((k : Int) % c == r) = false := by simpa using hm
        clear hm
        go_wp2
        go_round
        case rel => exact ⟨k + 1, by omega, by go_num, by rw [show ((k + 1 : Nat) : Int) = (k : Int) + 1 from by omega, HS.out]⟩
        case measure => simp [intOf]; omega
    · have HE : Hid ((k : Int) = n) := (by omega : (k : Int) = n)
      go_wp2_with (go_at_call 9; refine (zshare_any n c r _ h0 (by omega) hc hc2 hr).mono ?_; rintro e w' ⟨rfl, rfl⟩)
      go_ret
      rw [HE.out]
      exact ⟨by simp, rfl⟩

set_option maxHeartbeats 400000 in
theorem walk (a0 : Int) (a1 : Int) (a2 : Int) (w0 : (Lit.int .i64 a0).wf = true) (w1 : (Lit.int .i64 a1).wf = true) (w2 : (Lit.int .i64 a2).wf = true) (w : World) :
    Calls Trym.prog 5 #[.int .i64 a0, .int .i64 a1, .int .i64 a2] w fun e w' => e = .returned (.bool true) ∧ Grown w w' := by
  have b0 := bounds_i64 w0
  have b1 := bounds_i64 w1
  have b2 := bounds_i64 w2
  by_cases h : 0 ≤ a0 ∧ a0 ≤ 65536 ∧ 1 ≤ a1 ∧ 0 ≤ a2 ∧ a2 < a1
  · obtain ⟨h1, h2, h3, h4, h5⟩ := h
    refine (walk_in a0 a1 a2 w h1 h2 h3 (by omega) h4 h5).mono ?_
    rintro e w' ⟨rfl, rfl⟩
    exact ⟨rfl, Grown.refl _⟩
  · have hh : a0 < 0 ∨ (0 ≤ a0 ∧ 65536 < a0) ∨ (0 ≤ a0 ∧ a0 ≤ 65536 ∧ a1 < 1) ∨ (0 ≤ a0 ∧ a0 ≤ 65536 ∧ 1 ≤ a1 ∧ a2 < 0) ∨ (0 ≤ a0 ∧ a0 ≤ 65536 ∧ 1 ≤ a1 ∧ 0 ≤ a2 ∧ a1 ≤ a2) := by omega
    clear h
    rcases hh with h | ⟨h, h'⟩ | ⟨h, h', h2⟩ | ⟨h, h', h2, h3⟩ | ⟨h, h', h2, h3, h4⟩
    all_goals
      go_enter Trym.func5, Trym.ntmps5
      go_wp2
      go_ret
      exact ⟨rfl, Grown.refl _⟩

/-! ### THE ROW's STEP: WRITTEN OUT: LEAVE IT -/
set_option maxRecDepth 100000 in
theorem lifted (os : Os) (started : os.Started) (H : Type) (enc : TypeId × Value → H) :
    ReturnsInHanded {} Trym.checked os 5 .any (Rows.fnFairShareMatchesRoundRobinSpec.pre6 enc Trym.prog Trym.f5 Rows.fnFairShareMatchesRoundRobinRow.domain false) (Rows.fnFairShareMatchesRoundRobinSpec.post enc Trym.prog Trym.f5 false true false false) := by
  refine returnsInHanded_of_change (C := Trym.checked) own started (by kernel_rfl) Trym.func5
    (ChangeSpec.witness6 (enc := enc) (C := Trym.checked) false ⟨#[], #[.int .i64 0, .int .i64 0, .int .i64 0], []⟩ 8 (by kernel_rfl) (by kernel_rfl) (by kernel_rfl) (by kernel_rfl)) ?_
  intro W base args ds gs before hval0 hW hcnd _
  have hval : ∀ (j : Nat) t v, Trym.f5.params[j]? = some t → args[j]? = some v → Value.okWide Trym.prog W .any base t v := hval0
  have hW' := hW
  obtain ⟨p, q, hA0, hV, rfl, hfz, hnd⟩ := hW
  have hA : DataW.TrodAll enc Trym.prog W 0 (fun _ => true) true Trym.f5.params.toList args.toList ds p := hA0
  rw [Trym.params5] at hA hval
  obtain ⟨v0, vs0, d0, ds0, p0, q0, hargs, rfl, rfl, h0, r0⟩ := trodAll_cons hA
  obtain ⟨v1, vs1, d1, ds1, p1, q1, rfl, rfl, rfl, h1, r1⟩ := trodAll_cons r0
  obtain ⟨v2, vs2, d2, ds2, p2, q2, rfl, rfl, rfl, h2, r2⟩ := trodAll_cons r1
  obtain ⟨rfl, rfl, rfl⟩ := trodAll_nil r2
  obtain rfl : args = #[v0, v1, v2] := by cases args; simp_all
  obtain ⟨rfl, rfl⟩ := trodVars_none hV
  obtain ⟨a0, rfl, rfl, rfl, w0⟩ := open_int Trym.underlying3 (hval 0 3 v0 rfl rfl) h0
  obtain ⟨a1, rfl, rfl, rfl, w1⟩ := open_int Trym.underlying3 (hval 1 3 v1 rfl rfl) h1
  obtain ⟨a2, rfl, rfl, rfl, w2⟩ := open_int Trym.underlying3 (hval 2 3 v2 rfl rfl) h2
  clear hA0 hval0
  simp only [List.append_nil] at hW'
  refine (walk a0 a1 a2 w0 w1 w2 W).mono fun e W' ⟨he, hg⟩ => ?_
  subst he
  exact ⟨_, rfl, post_of_same (pa := []) (pv := []) hW' (fun _ _ _ => (trodAll_cons_mk (shut_bool Trym.underlying4 _) trodAll_mk0)) (fun sp _ => (trodAll_cons_mk (shut_int Trym.underlying3 w0) (trodAll_cons_mk (shut_int Trym.underlying3 w1) (trodAll_cons_mk (shut_int Trym.underlying3 w2) trodAll_mk0)))) (fun _ _ => rfl) rfl
    (hg.frame _) hg.2.1 (ok_one (by kernel_rfl) rfl (okWide_bool_mk Trym.underlying4 _))⟩

theorem over : Rows.fnFairShareMatchesRoundRobinRow.holds Trym.pinned (OpenSpec.ofChange Rows.fnFairShareMatchesRoundRobinSpec) :=
  OpenClaim.holds_of_wide 5 Trym.f5 rfl rfl rfl rfl rfl rfl rfl ⟨rfl, rfl, rfl, rfl, rfl⟩ rfl rfl rfl rfl rfl (by kernel_rfl) Trym.func5 (by kernel_rfl)
    (of_decide_eq_true (by kernel_rfl)) (by unfold Func.isWrapper; first | (rw [if_pos (by decide +kernel)]; kernel_rfl) | (rw [if_neg (by decide +kernel)]; exact ⟨rfl, rfl⟩))
    (fun os started H enc _ => lifted os started H enc)

/-- ████ THE STATEMENT ████ -/
theorem proved : Rows.FnFairShareMatchesRoundRobinSaid :=
  over
end Go.Proofs.Qxb6000660aMods.fnFairShareMatchesRoundRobin
