import Derived.Test.Qxb6001486aModsChain
namespace Go.Proofs.Qxb6001486aMods
open Go.ChangeShapes Go.WideShapes Go.ChangeAt Go.RowKit

set_option maxHeartbeats 400000 in
theorem depth12 (g o : Nat) (v : Int) (w : World) (h : w.cell? ⟨g, o + 2, none⟩ = some (.int .i64 v)) :
    Calls Trym.prog 12 #[.pointer (some ⟨g, o, none⟩)] w fun e w' => e = .returned (.int .i64 v) ∧ w' = w := by
  go_enter Trym.func12, Trym.ntmps12
  go_wp2
  go_ret
  exact ⟨rfl, rfl⟩
set_option maxHeartbeats 400000 in
theorem jump10 (g o : Nat) (p : Option Addr) (w : World) (h : w.cell? ⟨g, o + 4, none⟩ = some (.pointer p)) :
    Calls Trym.prog 10 #[.pointer (some ⟨g, o, none⟩)] w fun e w' => e = .returned (.pointer p) ∧ w' = w := by
  go_enter Trym.func10, Trym.ntmps10
  go_wp2
  go_ret
  exact ⟨rfl, rfl⟩
set_option maxHeartbeats 400000 in
theorem parent13 (g o : Nat) (p : Option Addr) (w : World) (h : w.cell? ⟨g, o, none⟩ = some (.pointer p)) :
    Calls Trym.prog 13 #[.pointer (some ⟨g, o, none⟩)] w fun e w' => e = .returned (.pointer p) ∧ w' = w := by
  go_enter Trym.func13, Trym.ntmps13
  go_wp2
  go_ret
  exact ⟨rfl, rfl⟩

theorem bitsF_le : ∀ f n, bitsF f n ≤ f := by
  intro f
  induction f with
  | zero => intro n; exact Nat.le_refl _
  | succ f ih => intro n; unfold bitsF; split; · omega
                 · have := ih (n / 2); omega
theorem bits_le (n : Nat) : bits n ≤ n := bitsF_le n n

set_option maxHeartbeats 400000 in
theorem bitlen11 (n : Nat) (w : World) (hn : (n : Int) ≤ 1048576) :
    Calls Trym.prog 11 #[.int .i64 (n : Int)] w fun e w' => e = .returned (.int .i64 (bits n : Int)) ∧ w' = w := by
  go_enter Trym.func11, Trym.ntmps11
  go_wp2
  go_loop [0, 3] (fun a c => ∃ (m k : Nat), a = .int .i64 (m : Int) ∧ c = .int .i64 (k : Int) ∧ m ≤ n ∧ bits m + k = bits n) (fun a _ => (intOf a).toNat)
  case atStart => exact ⟨n, 0, rfl, rfl, Nat.le_refl _, rfl⟩
  case round =>
    obtain ⟨m, k, rfl, rfl, hm, hb⟩ := hrel
    have hbl := bits_le n
    have HB : Hid (bits m + k = bits n) := hb
    have hk : (k : Int) ≤ 1048576 := by omega
    clear hb hbl
    by_cases h0 : (0 : Int) < (m : Int)
    · have HS : Hid (bits (m / 2) + (k + 1) = bits n) := by have := bits_half (n := m) (by omega); have := HB.out; show _ = _; omega
      go_wp2_with fail
      go_round
      case rel => exact ⟨m / 2, k + 1, by go_num, by go_num, by omega, HS.out⟩
      case measure => simp [intOf]; omega
    · obtain rfl : m = 0 := by omega
      have HE : Hid (k = bits n) := by have := HB.out; rw [bits_zero] at this; show _ = _; omega
      go_wp2_with fail
      go_ret
      rw [HE.out]
      exact ⟨rfl, rfl⟩

end Go.Proofs.Qxb6001486aMods
