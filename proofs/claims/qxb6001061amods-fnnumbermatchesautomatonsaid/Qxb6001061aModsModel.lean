import Derived.Test.Qxb6001061aModsRows
import Derived.Test.Qxb6001061aModsAutom
import Derived.WalkKit
import Derived.ProofKit
import Derived.OpenShut
import Derived.Deep.LoopGhost
namespace Go.Proofs.Qxb6001061aMods
open Go.ChangeShapes Go.WideShapes Go.ChangeAt Go.RowKit

set_option linter.unusedSimpArgs false

theorem ret_int {k : IntKind} {a b : Int} (h : a = b) : Ending.returned (.int k a) = .returned (.int k b) := by rw [h]

set_option maxHeartbeats 1000000 in
theorem step0 (c : Int) (w : World) : Calls Trym.prog 17 #[.int .i64 0, .int .u8 c] w fun e w' => e = .returned (.int .i64 (stepF 0 c)) ∧ w' = w := by
  go_enter Trym.func17, Trym.ntmps17
  go_wp2
  all_goals go_ret
  all_goals
    refine ⟨ret_int ?_, rfl⟩
    try simp only [beq_iff_eq, beq_eq_false_iff_ne, ne_eq] at *
    simp [stepF, isDig, isE, isSg] <;> omega

set_option maxHeartbeats 1000000 in
theorem step1 (c : Int) (w : World) : Calls Trym.prog 17 #[.int .i64 1, .int .u8 c] w fun e w' => e = .returned (.int .i64 (stepF 1 c)) ∧ w' = w := by
  go_enter Trym.func17, Trym.ntmps17
  go_wp2
  all_goals go_ret
  all_goals
    refine ⟨ret_int ?_, rfl⟩
    try simp only [beq_iff_eq, beq_eq_false_iff_ne, ne_eq] at *
    simp [stepF, isDig, isE, isSg] <;> omega

set_option maxHeartbeats 1000000 in
theorem step2 (c : Int) (w : World) : Calls Trym.prog 17 #[.int .i64 2, .int .u8 c] w fun e w' => e = .returned (.int .i64 (stepF 2 c)) ∧ w' = w := by
  go_enter Trym.func17, Trym.ntmps17
  go_wp2
  all_goals go_ret
  all_goals
    refine ⟨ret_int ?_, rfl⟩
    try simp only [beq_iff_eq, beq_eq_false_iff_ne, ne_eq] at *
    simp [stepF, isDig, isE, isSg] <;> omega

set_option maxHeartbeats 1000000 in
theorem step3 (c : Int) (w : World) : Calls Trym.prog 17 #[.int .i64 3, .int .u8 c] w fun e w' => e = .returned (.int .i64 (stepF 3 c)) ∧ w' = w := by
  go_enter Trym.func17, Trym.ntmps17
  go_wp2
  all_goals go_ret
  all_goals
    refine ⟨ret_int ?_, rfl⟩
    try simp only [beq_iff_eq, beq_eq_false_iff_ne, ne_eq] at *
    simp [stepF, isDig, isE, isSg] <;> omega

set_option maxHeartbeats 1000000 in
theorem step4 (c : Int) (w : World) : Calls Trym.prog 17 #[.int .i64 4, .int .u8 c] w fun e w' => e = .returned (.int .i64 (stepF 4 c)) ∧ w' = w := by
  go_enter Trym.func17, Trym.ntmps17
  go_wp2
  all_goals go_ret
  all_goals
    refine ⟨ret_int ?_, rfl⟩
    try simp only [beq_iff_eq, beq_eq_false_iff_ne, ne_eq] at *
    simp [stepF, isDig, isE, isSg] <;> omega

set_option maxHeartbeats 1000000 in
theorem step5 (c : Int) (w : World) : Calls Trym.prog 17 #[.int .i64 5, .int .u8 c] w fun e w' => e = .returned (.int .i64 (stepF 5 c)) ∧ w' = w := by
  go_enter Trym.func17, Trym.ntmps17
  go_wp2
  all_goals go_ret
  all_goals
    refine ⟨ret_int ?_, rfl⟩
    try simp only [beq_iff_eq, beq_eq_false_iff_ne, ne_eq] at *
    simp [stepF, isDig, isE, isSg] <;> omega

set_option maxHeartbeats 1000000 in
theorem step6 (c : Int) (w : World) : Calls Trym.prog 17 #[.int .i64 6, .int .u8 c] w fun e w' => e = .returned (.int .i64 (stepF 6 c)) ∧ w' = w := by
  go_enter Trym.func17, Trym.ntmps17
  go_wp2
  all_goals go_ret
  all_goals
    refine ⟨ret_int ?_, rfl⟩
    try simp only [beq_iff_eq, beq_eq_false_iff_ne, ne_eq] at *
    simp [stepF, isDig, isE, isSg] <;> omega

set_option maxHeartbeats 1000000 in
theorem step7 (c : Int) (w : World) : Calls Trym.prog 17 #[.int .i64 7, .int .u8 c] w fun e w' => e = .returned (.int .i64 (stepF 7 c)) ∧ w' = w := by
  go_enter Trym.func17, Trym.ntmps17
  go_wp2
  all_goals go_ret
  all_goals
    refine ⟨ret_int ?_, rfl⟩
    try simp only [beq_iff_eq, beq_eq_false_iff_ne, ne_eq] at *
    simp [stepF, isDig, isE, isSg] <;> omega

set_option maxHeartbeats 1000000 in
theorem step8 (c : Int) (w : World) : Calls Trym.prog 17 #[.int .i64 8, .int .u8 c] w fun e w' => e = .returned (.int .i64 (stepF 8 c)) ∧ w' = w := by
  go_enter Trym.func17, Trym.ntmps17
  go_wp2
  all_goals go_ret
  all_goals
    refine ⟨ret_int ?_, rfl⟩
    try simp only [beq_iff_eq, beq_eq_false_iff_ne, ne_eq] at *
    simp [stepF, isDig, isE, isSg] <;> omega

/-- A state of the automaton. -/
def isSt (st : Int) : Prop := 0 ≤ st ∧ st ≤ 8

theorem step_any (st c : Int) (w : World) (h : isSt st) : Calls Trym.prog 17 #[.int .i64 st, .int .u8 c] w fun e w' => e = .returned (.int .i64 (stepF st c)) ∧ w' = w := by
  obtain ⟨h1, h2⟩ := h
  have : st = 0 ∨ st = 1 ∨ st = 2 ∨ st = 3 ∨ st = 4 ∨ st = 5 ∨ st = 6 ∨ st = 7 ∨ st = 8 := by omega
  rcases this with rfl | rfl | rfl | rfl | rfl | rfl | rfl | rfl | rfl
  · exact step0 c w
  · exact step1 c w
  · exact step2 c w
  · exact step3 c w
  · exact step4 c w
  · exact step5 c w
  · exact step6 c w
  · exact step7 c w
  · exact step8 c w

theorem step_range (st c : Int) : stepF st c < 0 ∨ isSt (stepF st c) := by
  unfold stepF isSt
  repeat' split
  all_goals first | (left; decide) | (right; decide)

theorem ret_bool' {a b : Bool} (h : a = b) : Ending.returned (.bool a) = .returned (.bool b) := by rw [h]

set_option maxHeartbeats 400000 in
theorem acc_st (st : Int) (w : World) : Calls Trym.prog 18 #[.int .i64 st] w fun e w' => e = .returned (.bool (accF st)) ∧ w' = w := by
  go_enter Trym.func18, Trym.ntmps18
  go_wp2
  all_goals go_ret
  all_goals (refine ⟨ret_bool' ?_, rfl⟩; simp_all [accF])

set_option maxHeartbeats 1000000 in
theorem model_any (w : World) (b off cap : Nat) (zs : List Int) (i : Nat) (hz : ∀ k, k < zs.length → w.cell? ⟨b, off + k, none⟩ = some (.int .u8 (zs[k]?.getD 0)))
    (hi : i < zs.length) (hl : (zs.length : Int) ≤ 4194304) :
    Calls Trym.prog 10 #[.slice (some ⟨b, off, none⟩) zs.length cap, .int .i64 (i : Int)] w fun e w' => e = .returned (.tuple #[.int .i64 ((mF zs 0 i).1 : Int), .bool (mF zs 0 i).2]) ∧ w' = w := by
  have HZ : Hid (∀ k, k < zs.length → w.cell? ⟨b, off + k, none⟩ = some (.int .u8 (zs[k]?.getD 0))) := hz
  obtain ⟨F, hF⟩ : ∃ F, F = mF zs 0 i := ⟨_, rfl⟩
  rw [← hF]
  have HF : Hid (F = mF zs 0 i) := hF
  clear hz hF
  go_enter Trym.func10, Trym.ntmps10
  go_wp2
  go_loop [6, 7] (fun s j => ∃ (st : Int) (k : Nat), s = .int .i64 st ∧ j = .int .i64 (k : Int) ∧ isSt st ∧ k ≤ zs.length ∧ mF zs st k = F) (fun _ j => zs.length - (intOf j).toNat)
  case atStart => exact ⟨0, i, rfl, rfl, ⟨by decide, by decide⟩, by omega, HF.out.symm⟩
  case round =>
    obtain ⟨st, k, rfl, rfl, hst, hk, hm⟩ := hrel
    have HM : Hid (mF zs st k = F) := hm
    have HST : Hid (isSt st) := hst
    clear hm hst
    by_cases hlt : (k : Int) < (zs.length : Int)
    · have h3 := HZ.out k (by omega)
      generalize hc : zs[k]?.getD 0 = c at h3
      have HC : Hid (zs[k]?.getD 0 = c) := hc
      clear hc
      rcases step_range st c with hs | hs
      · have HV : Hid (F = (k, accF st)) := by rw [← HM.out]; exact m_stop (by omega) (by rw [HC.out]; exact hs)
        go_wp2_with fail
        refine (step_any st c _ HST.out).mono ?_
        rintro e w' ⟨rfl, h2⟩; rw [h2]; clear h2 w'
        go_wp2_with fail
        refine (acc_st st _).mono ?_
        rintro e w' ⟨rfl, h2⟩; rw [h2]; clear h2 w'
        go_wp2_with fail
        go_ret2
        rw [HV.out]
        exact ⟨rfl, rfl⟩
      · have HS : Hid (isSt (stepF st c)) := hs
        have hs0 : 0 ≤ stepF st c := hs.1
        have HV : Hid (mF zs (stepF st c) (k + 1) = F) := by rw [← HM.out]; exact (m_step (by omega) (by rw [HC.out]) hs0).symm
        clear hs
        go_wp2_with fail
        refine (step_any st c _ HST.out).mono ?_
        rintro e w' ⟨rfl, h2⟩; rw [h2]; clear h2 w'
        go_wp2_with fail
        go_round
        case rel => exact ⟨stepF st c, k + 1, rfl, by go_num, HS.out, by omega, HV.out⟩
        case measure => simp [intOf]; omega
    · have HV : Hid (F = (k, accF st)) := by rw [← HM.out]; exact m_end (by omega)
      go_wp2_with fail
      refine (acc_st st _).mono ?_
      rintro e w' ⟨rfl, h2⟩; rw [h2]; clear h2 w'
      go_wp2_with fail
      go_ret2
      rw [HV.out]
      exact ⟨rfl, rfl⟩

end Go.Proofs.Qxb6001061aMods
