import Derived.Test.Qxb6001486aModsRows
import Derived.Test.Qxb6001486aModsWalkUp
import Derived.WalkKit
import Derived.ProofKit
import Derived.OpenShut
import Derived.ShutString
namespace Go.Proofs.Qxb6001486aMods.fnMakePlaceWalkUpIsLogarithmic
open Go.ChangeShapes Go.WideShapes Go.ChangeAt Go.RowKit
open Go.ChangeMaps (open_string shut_string)
set_option linter.unusedVariables false      -- a walk need not use every 'w<i>' (that an integer argument fits its kind)

theorem own : ownKnob Trym.prog.godebug = none := by kernel_rfl

/-! ### THE WALK: it ends in 'Below' (what was there before the call is as it was), not in 'Grown': so the last row of 'lifted' gives 'post' limb by limb. -/

set_option maxHeartbeats 400000 in
theorem walk (a0 : Int) (a1 : Int) (w0 : (Lit.int .i64 a0).wf = true) (w1 : (Lit.int .i64 a1).wf = true) (w : World) :
    Calls Trym.prog 4 #[.int .i64 a0, .int .i64 a1] w fun e w' => e = .returned (.bool true) ∧ Below w.heap.size w w' := by
  have b0 := bounds_i64 w0
  have b1 := bounds_i64 w1
  by_cases h : 1 ≤ a0 ∧ a0 ≤ 65536 ∧ 0 ≤ a1 ∧ a1 ≤ a0
  · obtain ⟨h1, h2, h3, h4⟩ := h
    obtain ⟨n, rfl⟩ : ∃ n : Nat, a0 = (n : Int) := ⟨a0.toNat, by omega⟩
    obtain ⟨t, rfl⟩ : ∃ t : Nat, a1 = (t : Int) := ⟨a1.toNat, by omega⟩
    exact up_in n t w (by omega) h2 (by omega)
  · have hh : a0 < 1 ∨ (1 ≤ a0 ∧ 65536 < a0) ∨ (1 ≤ a0 ∧ a0 ≤ 65536 ∧ a1 < 0) ∨ (1 ≤ a0 ∧ a0 ≤ 65536 ∧ 0 ≤ a1 ∧ a0 < a1) := by omega
    clear h
    rcases hh with h | ⟨h, h'⟩ | ⟨h, h', h2⟩ | ⟨h, h', h2, h3⟩
    all_goals
      go_enter Trym.func4, Trym.ntmps4
      go_wp2
      go_ret
      exact ⟨rfl, Below.refl _ _⟩

/-! ### THE ROW's STEP: the shell's, its last row turned -/
set_option maxRecDepth 100000 in
theorem lifted (os : Os) (started : os.Started) (H : Type) (enc : TypeId × Value → H) :
    ReturnsInHanded {} Trym.checked os 4 .any (Rows.fnMakePlaceWalkUpIsLogarithmicSpec.pre6 enc Trym.prog Trym.f4 Rows.fnMakePlaceWalkUpIsLogarithmicRow.domain false) (Rows.fnMakePlaceWalkUpIsLogarithmicSpec.post enc Trym.prog Trym.f4 false true false false) := by
  refine returnsInHanded_of_change (C := Trym.checked) own started (by kernel_rfl) Trym.func4
    (ChangeSpec.witness6 (enc := enc) (C := Trym.checked) false ⟨#[], #[.int .i64 0, .int .i64 0], []⟩ 8 (by kernel_rfl) (by kernel_rfl) (by kernel_rfl) (by kernel_rfl)) ?_
  intro W base args ds gs before hval0 hW hcnd _
  have hval : ∀ (j : Nat) t v, Trym.f4.params[j]? = some t → args[j]? = some v → Value.okWide Trym.prog W .any base t v := hval0
  have hW' := hW
  obtain ⟨p, q, hA0, hV, rfl, hfz, hnd⟩ := hW
  have hA : DataW.TrodAll enc Trym.prog W 0 (fun _ => true) true Trym.f4.params.toList args.toList ds p := hA0
  rw [Trym.params4] at hA hval
  obtain ⟨v0, vs0, d0, ds0, p0, q0, hargs, rfl, rfl, h0, r0⟩ := trodAll_cons hA
  obtain ⟨v1, vs1, d1, ds1, p1, q1, rfl, rfl, rfl, h1, r1⟩ := trodAll_cons r0
  obtain ⟨rfl, rfl, rfl⟩ := trodAll_nil r1
  obtain rfl : args = #[v0, v1] := by cases args; simp_all
  obtain ⟨rfl, rfl⟩ := trodVars_none hV
  obtain ⟨a0, rfl, rfl, rfl, w0⟩ := open_int Trym.underlying3 (hval 0 3 v0 rfl rfl) h0
  obtain ⟨a1, rfl, rfl, rfl, w1⟩ := open_int Trym.underlying3 (hval 1 3 v1 rfl rfl) h1
  clear hA0 hval0
  simp only [List.append_nil] at hW'
  refine (walk a0 a1 w0 w1 W).mono fun e W' ⟨he, bel⟩ => ?_
  subst he
  exact ⟨_, rfl, _, _, _, [], [], [], hW', trodAll_mk1 (shut_bool Trym.underlying4 _), (trodAll_cons_mk (shut_int Trym.underlying3 w0) (trodAll_cons_mk (shut_int Trym.underlying3 w1) trodAll_mk0)), rfl, bel.frame _, fun h => by cases h⟩

theorem over : Rows.fnMakePlaceWalkUpIsLogarithmicRow.holds Trym.pinned (OpenSpec.ofChange Rows.fnMakePlaceWalkUpIsLogarithmicSpec) :=
  OpenClaim.holds_of_wide 4 Trym.f4 rfl rfl rfl rfl rfl rfl rfl ⟨rfl, rfl, rfl, rfl, rfl⟩ rfl rfl rfl rfl rfl (by kernel_rfl) Trym.func4 (by kernel_rfl)
    (of_decide_eq_true (by kernel_rfl)) (by unfold Func.isWrapper; first | (rw [if_pos (by decide +kernel)]; kernel_rfl) | (rw [if_neg (by decide +kernel)]; exact ⟨rfl, rfl⟩))
    (fun os started H enc _ => lifted os started H enc)

/-- ████ THE STATEMENT ████ -/
theorem proved : Rows.FnMakePlaceWalkUpIsLogarithmicSaid :=
  over
end Go.Proofs.Qxb6001486aMods.fnMakePlaceWalkUpIsLogarithmic
