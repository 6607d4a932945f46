import Derived.Test.Qxb6001486aModsToks
namespace Go.Proofs.Qxb6001486aMods
open Go.ChangeShapes Go.WideShapes Go.ChangeAt Go.RowKit

/-- How the two counts end: an answer; the world as it was. -/
def BytesOut (n : Nat) (L : Nat → Nat) (w : World) (e : Ending) (w' : World) : Prop :=
  ∃ b : Bool, e = .returned (.bool b) ∧ (b = true → ∀ k, k < n → (L k : Int) ≤ 1048576) ∧ w' = w
def TokOut (w : World) (e : Ending) (w' : World) : Prop := ∃ x : Int, e = .returned (.int .i64 x) ∧ w' = w

set_option maxHeartbeats 1000000 in
theorem bytes5_big (a : Option Addr) (n c : Nat) (w : World) (hn : (1048576 : Int) < (n : Int)) :
    Calls Trym.prog 5 #[.slice a n c] w fun e w' => e = .returned (.bool false) ∧ w' = w := by
  go_enter Trym.func5, Trym.ntmps5
  go_wp2
  go_ret
  exact ⟨rfl, rfl⟩

set_option maxHeartbeats 1000000 in
theorem bytes5 (tb tf n tc : Nat) (w : World) (A : Nat → Option Addr) (L C : Nat → Nat) (hn : (n : Int) ≤ 1048576)
    (hT : ∀ k, k < n → w.cell? ⟨tb, tf + k, none⟩ = some (.slice (A k) (L k) (C k))) (hM : ∀ k, k < n → L k ≤ maxLen) :
    Calls Trym.prog 5 #[.slice (some ⟨tb, tf, none⟩) n tc] w fun e w' => BytesOut n L w e w' := by
  have HT : Hid ((∀ k, k < n → w.cell? ⟨tb, tf + k, none⟩ = some (.slice (A k) (L k) (C k))) ∧ (∀ k, k < n → L k ≤ maxLen)) := ⟨hT, hM⟩
  clear hT hM
  go_enter Trym.func5, Trym.ntmps5
  go_wp2
  go_loop [3, 4] (fun s i => ∃ (j : Nat) (x : Int), j ≤ n ∧ i = .int .i64 (j : Int) ∧ s = .int .i64 x ∧ 0 ≤ x ∧ x ≤ 1048576 ∧ ∀ k, k < j → (L k : Int) ≤ 1048576) (fun _ i => n - (intOf i).toNat)
  case atStart => exact ⟨0, _, Nat.zero_le _, rfl, rfl, by omega, by omega, fun k hk => absurd hk (by omega)⟩
  case round =>
    obtain ⟨j, x, hj, rfl, rfl, hx0, hx1, hF⟩ := hrel
    have HF : Hid (∀ k, k < j → (L k : Int) ≤ 1048576) := hF
    clear hF
    by_cases hlt : j < n
    · have hc := HT.out.1 j hlt
      have hm := HT.out.2 j hlt
      unfold maxLen at hm
      by_cases h1 : (L j : Int) ≤ 1048576
      · by_cases h2 : x + (L j : Int) ≤ 1048576
        · go_wp2_with fail
          go_round
          case rel =>
            refine ⟨j + 1, _, by omega, by go_num, rfl, by omega, h2, fun k hk => ?_⟩
            by_cases e : k = j
            · subst e; exact h1
            · exact HF.out k (by omega)
          case measure => simp [intOf]; omega
        · go_wp2_with fail
          go_ret
          exact ⟨false, rfl, (fun h => by cases h), rfl⟩
      · go_wp2_with fail
        go_ret
        exact ⟨false, rfl, (fun h => by cases h), rfl⟩
    · obtain rfl : j = n := by omega
      go_wp2_with fail
      go_ret
      exact ⟨true, rfl, fun _ => HF.out, rfl⟩

set_option maxHeartbeats 1000000 in
theorem tokens6 (tb tf n tc : Nat) (w : World) (A : Nat → Option Addr) (L C : Nat → Nat) (hn : (n : Int) ≤ 65536)
    (hT : ∀ k, k < n → w.cell? ⟨tb, tf + k, none⟩ = some (.slice (A k) (L k) (C k))) (hL : ∀ k, k < n → (L k : Int) ≤ 1048576) :
    Calls Trym.prog 6 #[.slice (some ⟨tb, tf, none⟩) n tc] w fun e w' => TokOut w e w' := by
  have HT : Hid ((∀ k, k < n → w.cell? ⟨tb, tf + k, none⟩ = some (.slice (A k) (L k) (C k))) ∧ (∀ k, k < n → (L k : Int) ≤ 1048576)) := ⟨hT, hL⟩
  clear hT hL
  go_enter Trym.func6, Trym.ntmps6
  go_wp2
  go_loop [3, 4] (fun s i => ∃ (j : Nat) (x : Int), j ≤ n ∧ i = .int .i64 (j : Int) ∧ s = .int .i64 x ∧ 0 ≤ x ∧ x ≤ 1048576) (fun _ i => n - (intOf i).toNat)
  case atStart => exact ⟨0, _, Nat.zero_le _, rfl, rfl, by omega, by omega⟩
  case round =>
    obtain ⟨j, x, hj, rfl, rfl, hx0, hx1⟩ := hrel
    by_cases hlt : j < n
    · have hc := HT.out.1 j hlt
      have h1 := HT.out.2 j hlt
      by_cases h2 : x + (24 + (L j : Int)) ≤ 1048576
      · go_wp2_with fail
        go_round
        case rel => exact ⟨j + 1, _, by omega, by go_num, rfl, by omega, h2⟩
        case measure => simp [intOf]; omega
      · go_wp2_with fail
        go_ret
        exact ⟨_, rfl, rfl⟩
    · obtain rfl : j = n := by omega
      go_wp2_with fail
      go_ret
      exact ⟨_, rfl, rfl⟩

set_option maxHeartbeats 1000000 in
theorem bytes5_0 (a : Option Addr) (c : Nat) (w : World) : Calls Trym.prog 5 #[.slice a 0 c] w fun e w' => e = .returned (.bool true) ∧ w' = w := by
  go_enter Trym.func5, Trym.ntmps5
  go_wp2
  go_loop [3, 4] (fun _ i => i = .int .i64 0) (fun _ _ => 0)
  case atStart => rfl
  case round =>
    subst hrel
    go_wp2_with fail
    go_ret
    exact ⟨rfl, rfl⟩
set_option maxHeartbeats 1000000 in
theorem tokens6_0 (a : Option Addr) (c : Nat) (w : World) : Calls Trym.prog 6 #[.slice a 0 c] w fun e w' => e = .returned (.int .i64 0) ∧ w' = w := by
  go_enter Trym.func6, Trym.ntmps6
  go_wp2
  go_loop [3, 4] (fun s i => i = .int .i64 0 ∧ s = .int .i64 0) (fun _ _ => 0)
  case atStart => exact ⟨rfl, rfl⟩
  case round =>
    obtain ⟨rfl, rfl⟩ := hrel
    go_wp2_with fail
    go_ret
    exact ⟨rfl, rfl⟩
end Go.Proofs.Qxb6001486aMods
