import Derived.Test.Qxb6000873aModsRows
import Derived.Test.Qxb6000873aModsDue
import Derived.WalkKit
import Derived.ProofKit
import Derived.OpenShut
import Derived.ShutString
namespace Go.Proofs.Qxb6000873aMods.fnCopyKindDueEpochNeverDueEndFinal
open Go.ChangeShapes Go.WideShapes Go.ChangeAt Go.RowKit
open Go.ChangeMaps (open_string shut_string)
set_option linter.unusedVariables false      -- a walk need not use every 'w<i>' (that an integer argument fits its kind)

theorem own : ownKnob Trym.prog.godebug = none := by kernel_rfl

/-! ### THE PLAIN SIDE -/

theorem due_epoch (l : Int) : dueB l 75 = false := by simp [dueB]
theorem due_end (k : Int) : dueB 90 k = false := by simp [dueB]
theorem due_head (l : Int) : dueB l 72 = (l == 75) := by simp [dueB]
theorem due_of_epoch (k : Int) : dueB 75 k = (k == 72) := by simp [dueB]

/-! ### THE FOUR CALLS -/

theorem call_epoch (l : Int) (w : World) :
    Calls Trym.prog 7 #[.int .u8 l, .int .u8 75] w fun e w' => e = .returned (.bool false) ∧ w' = w := by
  have h := zdue_any l 75 w; rw [due_epoch] at h; exact h
theorem call_end (k : Int) (w : World) :
    Calls Trym.prog 7 #[.int .u8 90, .int .u8 k] w fun e w' => e = .returned (.bool false) ∧ w' = w := by
  have h := zdue_any 90 k w; rw [due_end] at h; exact h
theorem call_head (l : Int) (w : World) :
    Calls Trym.prog 7 #[.int .u8 l, .int .u8 72] w fun e w' => e = .returned (.bool (l == 75)) ∧ w' = w := by
  have h := zdue_any l 72 w; rw [due_head] at h; exact h
theorem call_of_epoch (k : Int) (w : World) :
    Calls Trym.prog 7 #[.int .u8 75, .int .u8 k] w fun e w' => e = .returned (.bool (k == 72)) ∧ w' = w := by
  have h := zdue_any 75 k w; rw [due_of_epoch] at h; exact h

/-! ### THE WALK -/

set_option maxHeartbeats 400000 in
theorem walk (a0 : Int) (a1 : Int) (w0 : (Lit.int .u8 a0).wf = true) (w1 : (Lit.int .u8 a1).wf = true) (w : World) :
    Calls Trym.prog 4 #[.int .u8 a0, .int .u8 a1] w fun e w' => e = .returned (.bool true) ∧ Grown w w' := by
  go_enter Trym.func4, Trym.ntmps4
  go_wp2_with fail
  refine (call_epoch _ _).mono ?_
  rintro e w' ⟨rfl, rfl⟩
  go_wp2_with fail
  refine (call_end _ _).mono ?_
  rintro e w' ⟨rfl, rfl⟩
  go_wp2_with fail
  refine (call_head _ _).mono ?_
  rintro e w' ⟨rfl, rfl⟩
  go_wp2_with fail
  refine (call_of_epoch _ _).mono ?_
  rintro e w' ⟨rfl, rfl⟩
  go_wp2_with fail
  go_ret
  exact ⟨by simp, Grown.refl _⟩

/-! ### THE ROW's STEP: WRITTEN OUT: LEAVE IT -/
set_option maxRecDepth 100000 in
theorem lifted (os : Os) (started : os.Started) (H : Type) (enc : TypeId × Value → H) :
    ReturnsInHanded {} Trym.checked os 4 .any (Rows.fnCopyKindDueEpochNeverDueEndFinalSpec.pre6 enc Trym.prog Trym.f4 Rows.fnCopyKindDueEpochNeverDueEndFinalRow.domain false) (Rows.fnCopyKindDueEpochNeverDueEndFinalSpec.post enc Trym.prog Trym.f4 false true false false) := by
  refine returnsInHanded_of_change (C := Trym.checked) own started (by kernel_rfl) Trym.func4
    (ChangeSpec.witness6 (enc := enc) (C := Trym.checked) false ⟨#[], #[.int .u8 0, .int .u8 0], []⟩ 8 (by kernel_rfl) (by kernel_rfl) (by kernel_rfl) (by kernel_rfl)) ?_
  intro W base args ds gs before hval0 hW hcnd _
  have hval : ∀ (j : Nat) t v, Trym.f4.params[j]? = some t → args[j]? = some v → Value.okWide Trym.prog W .any base t v := hval0
  have hW' := hW
  obtain ⟨p, q, hA0, hV, rfl, hfz, hnd⟩ := hW
  have hA : DataW.TrodAll enc Trym.prog W 0 (fun _ => true) true Trym.f4.params.toList args.toList ds p := hA0
  rw [Trym.params4] at hA hval
  obtain ⟨v0, vs0, d0, ds0, p0, q0, hargs, rfl, rfl, h0, r0⟩ := trodAll_cons hA
  obtain ⟨v1, vs1, d1, ds1, p1, q1, rfl, rfl, rfl, h1, r1⟩ := trodAll_cons r0
  obtain ⟨rfl, rfl, rfl⟩ := trodAll_nil r1
  obtain rfl : args = #[v0, v1] := by cases args; simp_all
  obtain ⟨rfl, rfl⟩ := trodVars_none hV
  obtain ⟨a0, rfl, rfl, rfl, w0⟩ := open_int Trym.underlying5 (hval 0 5 v0 rfl rfl) h0
  obtain ⟨a1, rfl, rfl, rfl, w1⟩ := open_int Trym.underlying5 (hval 1 5 v1 rfl rfl) h1
  clear hA0 hval0
  simp only [List.append_nil] at hW'
  refine (walk a0 a1 w0 w1 W).mono fun e W' ⟨he, hg⟩ => ?_
  subst he
  exact ⟨_, rfl, post_of_same (pa := []) (pv := []) hW' (fun _ _ _ => (trodAll_cons_mk (shut_bool Trym.underlying4 _) trodAll_mk0)) (fun sp _ => (trodAll_cons_mk (shut_int Trym.underlying5 w0) (trodAll_cons_mk (shut_int Trym.underlying5 w1) trodAll_mk0))) (fun _ _ => rfl) rfl
    (hg.frame _) hg.2.1 (ok_one (by kernel_rfl) rfl (okWide_bool_mk Trym.underlying4 _))⟩

theorem over : Rows.fnCopyKindDueEpochNeverDueEndFinalRow.holds Trym.pinned (OpenSpec.ofChange Rows.fnCopyKindDueEpochNeverDueEndFinalSpec) :=
  OpenClaim.holds_of_wide 4 Trym.f4 rfl rfl rfl rfl rfl rfl rfl ⟨rfl, rfl, rfl, rfl, rfl⟩ rfl rfl rfl rfl rfl (by kernel_rfl) Trym.func4 (by kernel_rfl)
    (of_decide_eq_true (by kernel_rfl)) (by unfold Func.isWrapper; first | (rw [if_pos (by decide +kernel)]; kernel_rfl) | (rw [if_neg (by decide +kernel)]; exact ⟨rfl, rfl⟩))
    (fun os started H enc _ => lifted os started H enc)

/-- ████ THE STATEMENT ████ -/
theorem proved : Rows.FnCopyKindDueEpochNeverDueEndFinalSaid :=
  over
end Go.Proofs.Qxb6000873aMods.fnCopyKindDueEpochNeverDueEndFinal
