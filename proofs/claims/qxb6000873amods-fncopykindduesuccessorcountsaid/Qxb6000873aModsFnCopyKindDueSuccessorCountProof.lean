import Derived.Test.Qxb6000873aModsRows
import Derived.Test.Qxb6000873aModsDue
import Derived.WalkKit
import Derived.ProofKit
import Derived.OpenShut
import Derived.ShutString
namespace Go.Proofs.Qxb6000873aMods.fnCopyKindDueSuccessorCount
open Go.ChangeShapes Go.WideShapes Go.ChangeAt Go.RowKit
open Go.ChangeMaps (open_string shut_string)
set_option linter.unusedVariables false      -- a walk need not use every 'w<i>' (that an integer argument fits its kind)

theorem own : ownKnob Trym.prog.godebug = none := by kernel_rfl

/-! ### THE PLAIN SIDE -/

/-- How many of the kinds below k may follow l. -/
def cnt (l : Int) : Nat → Int
  | 0 => 0
  | k + 1 => cnt l k + if dueB l (k : Int) = true then 1 else 0

theorem cnt_hit {l : Int} {k : Nat} (h : dueB l (k : Int) = true) : cnt l (k + 1) = cnt l k + 1 := by
  show cnt l k + _ = _; rw [if_pos h]
theorem cnt_miss {l : Int} {k : Nat} (h : dueB l (k : Int) = false) : cnt l (k + 1) = cnt l k := by
  show cnt l k + _ = _; rw [if_neg (by rw [h]; decide)]; omega
theorem cnt_bd (l : Int) (k : Nat) : 0 ≤ cnt l k ∧ cnt l k ≤ k := by
  induction k with
  | zero => exact ⟨Int.le_refl _, Int.le_refl _⟩
  | succ k ih =>
    cases h : dueB l (k : Int)
    · rw [cnt_miss h]; omega
    · rw [cnt_hit h]; omega
theorem cnt_none {l : Int} (h : ∀ k, dueB l k = false) (k : Nat) : cnt l k = 0 := by
  induction k with
  | zero => rfl
  | succ k ih => rw [cnt_miss (h _), ih]
theorem cnt_75 : cnt 75 256 = 1 := by decide +kernel
theorem cnt_72 : cnt 72 256 = 1 := by decide +kernel
theorem cnt_78 : cnt 78 256 = 3 := by decide +kernel
theorem cnt_68 : cnt 68 256 = 3 := by decide +kernel
theorem cnt_other {l : Int} (h1 : ¬ l = 75) (h2 : ¬ l = 72) (h3 : ¬ l = 78) (h4 : ¬ l = 68) : cnt l 256 = 0 :=
  cnt_none (fun k => by simp [dueB, h1, h2, h3, h4]) 256

/-! ### 'MAY IT REPEAT' -/

theorem rep_75 (w : World) : Calls Trym.prog 7 #[.int .u8 75, .int .u8 75] w fun e w' => e = .returned (.bool false) ∧ w' = w := zdue_any 75 75 w
theorem rep_72 (w : World) : Calls Trym.prog 7 #[.int .u8 72, .int .u8 72] w fun e w' => e = .returned (.bool false) ∧ w' = w := zdue_any 72 72 w
theorem rep_78 (w : World) : Calls Trym.prog 7 #[.int .u8 78, .int .u8 78] w fun e w' => e = .returned (.bool true) ∧ w' = w := zdue_any 78 78 w
theorem rep_68 (w : World) : Calls Trym.prog 7 #[.int .u8 68, .int .u8 68] w fun e w' => e = .returned (.bool true) ∧ w' = w := zdue_any 68 68 w
theorem rep_other {l : Int} (h1 : ¬ l = 75) (h2 : ¬ l = 72) (h3 : ¬ l = 78) (h4 : ¬ l = 68) (w : World) :
    Hid (Calls Trym.prog 7 #[.int .u8 l, .int .u8 l] w fun e w' => e = .returned (.bool false) ∧ w' = w) := by
  have h := zdue_any l l w
  rw [show dueB l l = false from by simp [dueB, h1, h2, h3, h4]] at h
  exact h

/-! ### THE WALK -/

set_option maxHeartbeats 400000 in
theorem walk (a0 : Int) (w0 : (Lit.int .u8 a0).wf = true) (w : World) :
    Calls Trym.prog 5 #[.int .u8 a0] w fun e w' => e = .returned (.bool true) ∧ Grown w w' := by
  go_enter Trym.func5, Trym.ntmps5
  go_wp2
  go_loop [3, 4] (fun t i => ∃ k : Nat, (k : Int) ≤ 256 ∧ i = .int .i64 k ∧ t = .int .i64 (cnt a0 k)) (fun _ i => 256 - (intOf i).toNat)
  case atStart => exact ⟨0, by omega, rfl, rfl⟩
  case round =>
    obtain ⟨k, hk, rfl, rfl⟩ := hrel
    obtain ⟨p1, p2⟩ := cnt_bd a0 k
    by_cases hlt : (k : Int) < 256
    · cases hd : dueB a0 (k : Int)
      · have HS : Hid (cnt a0 (k + 1) = cnt a0 k) := cnt_miss hd
        have c := zdue_any a0 k w
        rw [hd] at c
        have C : Hid (Calls Trym.prog 7 #[.int .u8 a0, .int .u8 (k : Int)] w fun e w' => e = .returned (.bool false) ∧ w' = w) := c
        clear hd c
        go_wp2_with fail
        refine C.out.mono ?_
        rintro e w' ⟨rfl, rfl⟩
        go_wp2_with fail
        go_round
        case rel => exact ⟨k + 1, by omega, by go_num, by rw [HS.out]⟩
        case measure => simp [intOf]; omega
      · have HS : Hid (cnt a0 (k + 1) = cnt a0 k + 1) := cnt_hit hd
        have c := zdue_any a0 k w
        rw [hd] at c
        have C : Hid (Calls Trym.prog 7 #[.int .u8 a0, .int .u8 (k : Int)] w fun e w' => e = .returned (.bool true) ∧ w' = w) := c
        clear hd c
        go_wp2_with fail
        refine C.out.mono ?_
        rintro e w' ⟨rfl, rfl⟩
        go_wp2_with fail
        go_round
        case rel => exact ⟨k + 1, by omega, by go_num, by rw [HS.out]⟩
        case measure => simp [intOf]; omega
    · have hk2 : k = 256 := by omega
      by_cases h1 : a0 = 75
      · subst h1
        have hz : cnt 75 k = 1 := by rw [hk2]; exact cnt_75
        clear hk2
        rw [hz]
        clear hz p1 p2
        go_wp2_with fail
        refine (rep_75 _).mono ?_
        rintro e w' ⟨rfl, rfl⟩
        go_wp2_with fail
        go_ret
        exact ⟨rfl, Grown.refl _⟩
      by_cases h2 : a0 = 72
      · subst h2
        have hz : cnt 72 k = 1 := by rw [hk2]; exact cnt_72
        clear hk2
        rw [hz]
        clear hz p1 p2
        go_wp2_with fail
        refine (rep_72 _).mono ?_
        rintro e w' ⟨rfl, rfl⟩
        go_wp2_with fail
        go_ret
        exact ⟨rfl, Grown.refl _⟩
      by_cases h3 : a0 = 78
      · subst h3
        have hz : cnt 78 k = 3 := by rw [hk2]; exact cnt_78
        clear hk2
        rw [hz]
        clear hz p1 p2
        go_wp2_with fail
        refine (rep_78 _).mono ?_
        rintro e w' ⟨rfl, rfl⟩
        go_wp2_with fail
        go_ret
        exact ⟨rfl, Grown.refl _⟩
      by_cases h4 : a0 = 68
      · subst h4
        have hz : cnt 68 k = 3 := by rw [hk2]; exact cnt_68
        clear hk2
        rw [hz]
        clear hz p1 p2
        go_wp2_with fail
        refine (rep_68 _).mono ?_
        rintro e w' ⟨rfl, rfl⟩
        go_wp2_with fail
        go_ret
        exact ⟨rfl, Grown.refl _⟩
      have hz : cnt a0 k = 0 := by rw [hk2]; exact cnt_other h1 h2 h3 h4
      have C := rep_other h1 h2 h3 h4 w
      have g1 : (a0 == 75) = false := by simpa using h1
      have g2 : (a0 == 72) = false := by simpa using h2
      have g3 : (a0 == 78) = false := by simpa using h3
      have g4 : (a0 == 68) = false := by simpa using h4
      clear hk2 h1 h2 h3 h4
      rw [hz]
      clear hz p1 p2
      go_wp2_with fail
      refine C.out.mono ?_
      rintro e w' ⟨rfl, rfl⟩
      go_wp2_with fail
      go_ret
      exact ⟨by simp, Grown.refl _⟩

/-! ### THE ROW's STEP: WRITTEN OUT: LEAVE IT -/
set_option maxRecDepth 100000 in
theorem lifted (os : Os) (started : os.Started) (H : Type) (enc : TypeId × Value → H) :
    ReturnsInHanded {} Trym.checked os 5 .any (Rows.fnCopyKindDueSuccessorCountSpec.pre6 enc Trym.prog Trym.f5 Rows.fnCopyKindDueSuccessorCountRow.domain false) (Rows.fnCopyKindDueSuccessorCountSpec.post enc Trym.prog Trym.f5 false true false false) := by
  refine returnsInHanded_of_change (C := Trym.checked) own started (by kernel_rfl) Trym.func5
    (ChangeSpec.witness6 (enc := enc) (C := Trym.checked) false ⟨#[], #[.int .u8 0], []⟩ 8 (by kernel_rfl) (by kernel_rfl) (by kernel_rfl) (by kernel_rfl)) ?_
  intro W base args ds gs before hval0 hW hcnd _
  have hval : ∀ (j : Nat) t v, Trym.f5.params[j]? = some t → args[j]? = some v → Value.okWide Trym.prog W .any base t v := hval0
  have hW' := hW
  obtain ⟨p, q, hA0, hV, rfl, hfz, hnd⟩ := hW
  have hA : DataW.TrodAll enc Trym.prog W 0 (fun _ => true) true Trym.f5.params.toList args.toList ds p := hA0
  rw [Trym.params5] at hA hval
  obtain ⟨v0, vs0, d0, ds0, p0, q0, hargs, rfl, rfl, h0, r0⟩ := trodAll_cons hA
  obtain ⟨rfl, rfl, rfl⟩ := trodAll_nil r0
  obtain rfl : args = #[v0] := by cases args; simp_all
  obtain ⟨rfl, rfl⟩ := trodVars_none hV
  obtain ⟨a0, rfl, rfl, rfl, w0⟩ := open_int Trym.underlying5 (hval 0 5 v0 rfl rfl) h0
  clear hA0 hval0
  simp only [List.append_nil] at hW'
  refine (walk a0 w0 W).mono fun e W' ⟨he, hg⟩ => ?_
  subst he
  exact ⟨_, rfl, post_of_same (pa := []) (pv := []) hW' (fun _ _ _ => (trodAll_cons_mk (shut_bool Trym.underlying4 _) trodAll_mk0)) (fun sp _ => (trodAll_cons_mk (shut_int Trym.underlying5 w0) trodAll_mk0)) (fun _ _ => rfl) rfl
    (hg.frame _) hg.2.1 (ok_one (by kernel_rfl) rfl (okWide_bool_mk Trym.underlying4 _))⟩

theorem over : Rows.fnCopyKindDueSuccessorCountRow.holds Trym.pinned (OpenSpec.ofChange Rows.fnCopyKindDueSuccessorCountSpec) :=
  OpenClaim.holds_of_wide 5 Trym.f5 rfl rfl rfl rfl rfl rfl rfl ⟨rfl, rfl, rfl, rfl, rfl⟩ rfl rfl rfl rfl rfl (by kernel_rfl) Trym.func5 (by kernel_rfl)
    (of_decide_eq_true (by kernel_rfl)) (by unfold Func.isWrapper; first | (rw [if_pos (by decide +kernel)]; kernel_rfl) | (rw [if_neg (by decide +kernel)]; exact ⟨rfl, rfl⟩))
    (fun os started H enc _ => lifted os started H enc)

/-- ████ THE STATEMENT ████ -/
theorem proved : Rows.FnCopyKindDueSuccessorCountSaid :=
  over
end Go.Proofs.Qxb6000873aMods.fnCopyKindDueSuccessorCount
