import Derived.Test.Qxb6001061aModsRows
import Derived.Test.Qxb6001061aModsPlain
import Derived.WalkKit
import Derived.ProofKit
import Derived.OpenShut
namespace Go.Proofs.Qxb6001061aMods
open Go.ChangeShapes Go.WideShapes Go.ChangeAt Go.RowKit

/-- A string's bytes, as numbers. -/
def bytesOf (s : ByteArray) : List Int := s.data.toList.map (fun b => (b.toNat : Int))

theorem bytesOf_length (s : ByteArray) : (bytesOf s).length = s.size := by
  show (s.data.toList.map _).length = s.data.size
  rw [List.length_map, Array.length_toList]
theorem bytesOf_at (s : ByteArray) (k : Nat) (h : k < s.size) : (bytesOf s)[k]?.getD 0 = (s[k].toNat : Int) := by
  have h' : k < s.data.toList.length := by rw [Array.length_toList]; exact h
  simp only [bytesOf, List.getElem?_map, List.getElem?_eq_getElem h', Option.map_some, Option.getD_some]
  rfl
theorem bytesOf_take (s : ByteArray) (k : Nat) (h : k < s.size) : (bytesOf s).take (k + 1) = (bytesOf s).take k ++ [(s[k].toNat : Int)] := by
  have h' : k < (bytesOf s).length := by rw [bytesOf_length]; exact h
  rw [List.take_succ_eq_append_getElem h']
  congr 2
  have := bytesOf_at s k h
  rw [List.getElem?_eq_getElem h'] at this
  simpa using this

/-- Are all of them digits? -/
def allDig (zs : List Int) : Bool := zs.all isDig

theorem ret_bool {a b : Bool} (h : a = b) : Ending.returned (.bool a) = .returned (.bool b) := by rw [h]

set_option maxHeartbeats 400000 in
theorem isdig_any (c : Int) (w : World) :
    Calls Trym.prog 12 #[.int .u8 c] w fun e w' => e = .returned (.bool (isDig c)) ∧ w' = w := by
  by_cases h : 48 ≤ c
  · go_enter Trym.func12, Trym.ntmps12
    go_wp2
    go_ret
    exact ⟨ret_bool (by simp [isDig, h]), rfl⟩
  · have h' : decide (48 ≤ c) = false := by simpa using h
    have h2 : c < 48 := by omega
    clear h
    go_enter Trym.func12, Trym.ntmps12
    go_wp2
    go_ret
    exact ⟨ret_bool (by simp only [isDig, h']; rfl), rfl⟩

theorem allDig_step {zs : List Int} {k : Nat} (h : k < zs.length) : allDig (zs.drop k) = (isDig (zs[k]?.getD 0) && allDig (zs.drop (k + 1))) := by
  rw [drop_cons h, List.getD_eq_getElem?_getD]; rfl

set_option maxHeartbeats 400000 in
theorem alldig_any (s : ByteArray) (w : World) (hs : (s.size : Int) ≤ 4194304) :
    Calls Trym.prog 15 #[.string s] w fun e w' => e = .returned (.bool (allDig (bytesOf s))) ∧ w' = w := by
  go_enter Trym.func15, Trym.ntmps15
  go_wp2
  go_loop [3] (fun i => ∃ k : Nat, k ≤ s.size ∧ i = .int .i64 k ∧ allDig ((bytesOf s).drop k) = allDig (bytesOf s)) (fun i => s.size - (intOf i).toNat)
  case atStart => exact ⟨0, Nat.zero_le _, rfl, by simp⟩
  case round =>
    obtain ⟨k, hk, rfl, he⟩ := hrel
    have HE : Hid (allDig ((bytesOf s).drop k) = allDig (bytesOf s)) := he
    clear he
    by_cases hlt : k < s.size
    · have HS : Hid (allDig ((bytesOf s).drop k) = (isDig (s[k].toNat : Int) && allDig ((bytesOf s).drop (k + 1)))) := by
        rw [← bytesOf_at s k hlt]; exact allDig_step (by rw [bytesOf_length]; exact hlt)
      cases hd : isDig (s[k].toNat : Int)
      · go_wp2_with fail
        refine (isdig_any _ _).mono ?_
        rintro e w' ⟨rfl, rfl⟩
        rw [hd]
        go_wp2_with fail
        go_ret
        exact ⟨ret_bool (by rw [← HE.out, HS.out, hd]; rfl), rfl⟩
      · go_wp2_with fail
        refine (isdig_any _ _).mono ?_
        rintro e w' ⟨rfl, rfl⟩
        rw [hd]
        go_wp2_with fail
        go_round
        case rel => exact ⟨k + 1, by omega, by go_num, by rw [← HE.out, HS.out, hd]; rfl⟩
        case measure => simp [intOf]; omega
    · have HN : Hid (allDig (bytesOf s) = true) := by
        rw [← HE.out, List.drop_of_length_le (by rw [bytesOf_length]; omega)]; rfl
      go_wp2
      go_ret
      exact ⟨ret_bool HN.out.symm, rfl⟩

set_option maxHeartbeats 1000000 in
theorem bytes9_yes (a0 a2 a4 a5 : Bool) (a6 : Int) (a1 a3 a7 a8 : ByteArray) (w : World) (h : (a1.size : Int) + a3.size + a7.size + a8.size ≤ 1048576) :
    Calls Trym.prog 14 #[.bool a0, .string a1, .bool a2, .string a3, .bool a4, .bool a5, .int .i8 a6, .string a7, .string a8] w fun e w' => e = .returned (.bool true) ∧ w' = w := by
  go_enter Trym.func14, Trym.ntmps14
  go_wp2
  go_ret
  exact ⟨rfl, rfl⟩

set_option maxHeartbeats 1000000 in
theorem bytes9_no (a0 a2 a4 a5 : Bool) (a6 : Int) (a1 a3 a7 a8 : ByteArray) (w : World) (h : ¬ (a1.size : Int) + a3.size + a7.size + a8.size ≤ 1048576)
    (w1 : a1.size ≤ maxLen) (w3 : a3.size ≤ maxLen) (w7 : a7.size ≤ maxLen) (w8 : a8.size ≤ maxLen) :
    Calls Trym.prog 14 #[.bool a0, .string a1, .bool a2, .string a3, .bool a4, .bool a5, .int .i8 a6, .string a7, .string a8] w fun e w' => e = .returned (.bool false) ∧ w' = w := by
  unfold maxLen at w1 w3 w7 w8
  have h' : (1048576 : Int) < (a1.size : Int) + a3.size + a7.size + a8.size := by omega
  clear h
  go_enter Trym.func14, Trym.ntmps14
  go_wp2
  all_goals (go_ret; exact ⟨rfl, rfl⟩)

end Go.Proofs.Qxb6001061aMods
