import Derived.Test.Qxb6001061aModsScan
import Derived.Test.Qxb6001061aModsGuards
import Derived.Test.Qxb6001061aModsRendered
import Derived.Test.Qxb6001061aModsBuf
import Derived.Deep.CutBlock
namespace Go.Proofs.Qxb6001061aMods
open Go.ChangeShapes Go.WideShapes Go.ChangeAt Go.RowKit

/-- The guards, as Bools that nothing opens. -/
def leadB (zs : List Int) : Bool := decide (1 < zs.length) && (zs[0]?.getD 0 == 48)
def badB (has : Bool) (zs : List Int) : Bool := has && (decide (zs.length = 0) || !allDig zs)
theorem lead_in {zs : List Int} (h : 1 < zs.length) : leadB zs = (zs[0]?.getD 0 == 48) := by simp only [leadB, h]; simp
theorem lead_short {zs : List Int} (h : ¬ 1 < zs.length) : leadB zs = false := by simp only [leadB, h]; simp
theorem bad_empty {zs : List Int} (h : zs.length = 0) : badB true zs = true := by simp only [badB, h]; simp
theorem bad_full {zs : List Int} (h : ¬ zs.length = 0) : badB true zs = !allDig zs := by simp only [badB, h]; simp
theorem lead_out {zs : List Int} (h : leadB zs = false) : ¬ (1 < zs.length ∧ zs[0]?.getD 0 = 48) := by
  intro hh; rw [lead_in hh.1, hh.2] at h; cases h
theorem bad_out {has : Bool} {zs : List Int} (h : badB has zs = false) : has = true → zs ≠ [] ∧ zs.all isDig = true := by
  rintro rfl
  simp [badB, allDig] at h
  exact ⟨by rintro rfl; simp at h, by simpa using h.2⟩

theorem fracOf_len (h : Bool) (zs : List Int) : ((fracOf h zs).length : Int) ≤ 1 + zs.length := by
  cases h <;> simp [fracOf] <;> omega
theorem signOf_len (a : Int) : ((signOf a).length : Int) ≤ 1 := by
  unfold signOf; split
  · decide
  · split <;> decide
theorem expOf_len (h u : Bool) (a : Int) (zs : List Int) : ((expOf h u a zs).length : Int) ≤ 2 + zs.length := by
  have := signOf_len a
  cases h <;> simp [expOf] <;> omega

theorem tail_in {zs : List Int} (h : 0 < zs.length) : tailOk zs = !(isDig (zs[0]?.getD 0) || zs[0]?.getD 0 == 46 || zs[0]?.getD 0 == 101 || zs[0]?.getD 0 == 69) := by
  cases zs with
  | nil => simp at h
  | cons c cs => rfl
theorem tail_empty {zs : List Int} (h : zs.length = 0) : tailOk zs = true := by
  cases zs with
  | nil => rfl
  | cons c cs => simp at h

set_option maxRecDepth 100000 in
set_option maxHeartbeats 4000000 in
theorem acc_any (a0 a2 a4 a5 : Bool) (a6 : Int) (a1 a3 a7 a8 : ByteArray) (w : World)
    (w1 : a1.size ≤ maxLen) (w3 : a3.size ≤ maxLen) (w7 : a7.size ≤ maxLen) (w8 : a8.size ≤ maxLen) :
    Calls Trym.prog 6 #[.bool a0, .string a1, .bool a2, .string a3, .bool a4, .bool a5, .int .i8 a6, .string a7, .string a8] w fun e w' => e = .returned (.bool true) ∧ Below w.heap.size w w' := by
  by_cases hsum : (a1.size : Int) + a3.size + a7.size + a8.size ≤ 1048576
  · clear w1 w3 w7 w8
    go_enter Trym.func6, Trym.ntmps6
    go_wp2_with fail
    refine (bytes9_yes a0 a2 a4 a5 a6 a1 a3 a7 a8 _ hsum).mono ?_
    rintro e w' ⟨rfl, h2⟩; rw [h2]; clear h2 w'
    go_upto_region 7 with fail
    by_cases hz : a1.size = 0
    · as_aux_lemma =>
      have hzb : ((a1.size : Int) == 0) = true := by simp [hz]
      clear hz
      go_wp2_with fail
      go_ret
      exact ⟨rfl, Below.refl _ _⟩
    have hzb : ((a1.size : Int) == 0) = false := by simpa using hz
    cases hd1 : allDig (bytesOf a1)
    · as_aux_lemma =>
      go_wp2_with fail
      refine (alldig_any a1 _ (by omega)).mono ?_
      rintro e w' ⟨rfl, h2⟩; rw [h2]; clear h2 w'
      rw [hd1]
      clear hd1
      go_wp2_with fail
      go_ret
      exact ⟨rfl, Below.refl _ _⟩
    go_wp2_with fail
    refine (alldig_any a1 _ (by omega)).mono ?_
    rintro e w' ⟨rfl, h2⟩; rw [h2]; clear h2 w'
    rw [hd1]
    have HD1 : Hid (allDig (bytesOf a1) = true) := hd1
    clear hd1
    go_upto_region 9 with fail
    clear hzb
    have hp1 : 0 < a1.size := by omega
    go_cut [84] (fun t w1 => t = .bool (leadB (bytesOf a1)) ∧ w1 = w)
    case first => as_aux_lemma =>
      by_cases hw : (1 : Int) < (a1.size : Int)
      · have HB0 : Hid (leadB (bytesOf a1) = (((a1[0]'hp1).toNat : Int) == 48)) := by
          rw [← bytesOf_at a1 0 hp1]; exact lead_in (by rw [bytesOf_length]; omega)
        have hw2 : decide ((1 : Int) < (a1.size : Int)) = true := by simpa using hw
        go_wp2_with fail
        go_meet
        case rel => rw [HB0.out]; exact ⟨rfl, rfl⟩
      · have HB0 : Hid (leadB (bytesOf a1) = false) := lead_short (by rw [bytesOf_length]; omega)
        have hw2 : decide ((1 : Int) < (a1.size : Int)) = false := by simpa using hw
        clear hw
        go_wp2_with fail
        go_meet
        case rel => rw [HB0.out]; exact ⟨rfl, rfl⟩
    case rest => as_aux_lemma =>
      obtain ⟨rfl, h2⟩ := hcut; rw [h2]; clear h2 wc
      cases hlead : leadB (bytesOf a1)
      case true => as_aux_lemma =>
        clear hlead
        go_wp2_with fail
        go_ret
        exact ⟨rfl, Below.refl _ _⟩
      have HL : Hid (leadB (bytesOf a1) = false) := hlead
      clear hlead
      go_upto_region 11 with fail
      go_cut [95] (fun t w1 => t = .bool (badB a2 (bytesOf a3)) ∧ w1 = w)
      case first => as_aux_lemma =>
        cases a2
        · go_wp2_with fail
          go_meet
          case rel => exact ⟨rfl, rfl⟩
        · by_cases hz3 : a3.size = 0
          · have HB : Hid (badB true (bytesOf a3) = true) := bad_empty (by rw [bytesOf_length]; exact hz3)
            have hzb : ((a3.size : Int) == 0) = true := by simp [hz3]
            clear hz3
            go_wp2_with fail
            go_meet
            case rel => rw [HB.out]; exact ⟨rfl, rfl⟩
          · have HB : Hid (badB true (bytesOf a3) = !allDig (bytesOf a3)) := bad_full (by rw [bytesOf_length]; exact hz3)
            have hzb : ((a3.size : Int) == 0) = false := by simpa using hz3
            clear hz3
            go_wp2_with fail
            refine (alldig_any a3 _ (by omega)).mono ?_
            rintro e w' ⟨rfl, h2⟩; rw [h2]; clear h2 w'
            go_wp2_with fail
            go_meet
            case rel => rw [HB.out]; exact ⟨rfl, rfl⟩
      case rest => as_aux_lemma =>
        obtain ⟨rfl, h2⟩ := hcut; rw [h2]; clear h2 wc
        cases hbad : badB a2 (bytesOf a3)
        case true => as_aux_lemma =>
          clear hbad
          go_wp2_with fail
          go_ret
          exact ⟨rfl, Below.refl _ _⟩
        have HF : Hid (badB a2 (bytesOf a3) = false) := hbad
        clear hbad
        go_upto_region 13 with fail
        go_cut [106] (fun t w1 => t = .bool (badB a4 (bytesOf a7)) ∧ w1 = w)
        case first => as_aux_lemma =>
          cases a4
          · go_wp2_with fail
            go_meet
            case rel => exact ⟨rfl, rfl⟩
          · by_cases hz3 : a7.size = 0
            · have HB : Hid (badB true (bytesOf a7) = true) := bad_empty (by rw [bytesOf_length]; exact hz3)
              have hzb : ((a7.size : Int) == 0) = true := by simp [hz3]
              clear hz3
              go_wp2_with fail
              go_meet
              case rel => rw [HB.out]; exact ⟨rfl, rfl⟩
            · have HB : Hid (badB true (bytesOf a7) = !allDig (bytesOf a7)) := bad_full (by rw [bytesOf_length]; exact hz3)
              have hzb : ((a7.size : Int) == 0) = false := by simpa using hz3
              clear hz3
              go_wp2_with fail
              refine (alldig_any a7 _ (by omega)).mono ?_
              rintro e w' ⟨rfl, h2⟩; rw [h2]; clear h2 w'
              go_wp2_with fail
              go_meet
              case rel => rw [HB.out]; exact ⟨rfl, rfl⟩
        case rest => as_aux_lemma =>
          obtain ⟨rfl, h2⟩ := hcut; rw [h2]; clear h2 wc
          cases hbad : badB a4 (bytesOf a7)
          case true => as_aux_lemma =>
            clear hbad
            go_wp2_with fail
            go_ret
            exact ⟨rfl, Below.refl _ _⟩
          have HX : Hid (badB a4 (bytesOf a7) = false) := hbad
          clear hbad
          go_upto_if 109 with fail
          go_cut [] (fun w1 => w1 = w ∧ tailOk (bytesOf a8) = true)
          case first => as_aux_lemma =>
            by_cases hz8 : (0 : Int) < (a8.size : Int)
            · have hp8 : 0 < a8.size := by omega
              have HT : Hid (tailOk (bytesOf a8) = !(isDig ((a8[0]'hp8).toNat : Int) || ((a8[0]'hp8).toNat : Int) == 46 || ((a8[0]'hp8).toNat : Int) == 101 || ((a8[0]'hp8).toNat : Int) == 69)) := by
                rw [← bytesOf_at a8 0 hp8]; exact tail_in (by rw [bytesOf_length]; exact hp8)
              cases hd : isDig ((a8[0]'hp8).toNat : Int)
              · by_cases h46 : ((a8[0]'hp8).toNat : Int) = 46
                · have hb1 : (((a8[0]'hp8).toNat : Int) == 46) = true := by simpa using h46
                  clear h46
                  go_wp2_with fail
                  refine (isdig_any _ _).mono ?_
                  rintro e w' ⟨rfl, h2⟩; rw [h2]; clear h2 w'
                  rw [hd]
                  go_wp2_with fail
                  go_ret
                  exact ⟨rfl, Below.refl _ _⟩
                · have hb1 : (((a8[0]'hp8).toNat : Int) == 46) = false := by simpa using h46
                  clear h46
                  by_cases h101 : ((a8[0]'hp8).toNat : Int) = 101
                  · have hb2 : (((a8[0]'hp8).toNat : Int) == 101) = true := by simpa using h101
                    clear h101
                    go_wp2_with fail
                    refine (isdig_any _ _).mono ?_
                    rintro e w' ⟨rfl, h2⟩; rw [h2]; clear h2 w'
                    rw [hd]
                    go_wp2_with fail
                    go_ret
                    exact ⟨rfl, Below.refl _ _⟩
                  · have hb2 : (((a8[0]'hp8).toNat : Int) == 101) = false := by simpa using h101
                    clear h101
                    by_cases h69 : ((a8[0]'hp8).toNat : Int) = 69
                    · have hb3 : (((a8[0]'hp8).toNat : Int) == 69) = true := by simpa using h69
                      clear h69
                      go_wp2_with fail
                      refine (isdig_any _ _).mono ?_
                      rintro e w' ⟨rfl, h2⟩; rw [h2]; clear h2 w'
                      rw [hd]
                      go_wp2_with fail
                      go_ret
                      exact ⟨rfl, Below.refl _ _⟩
                    · have hb3 : (((a8[0]'hp8).toNat : Int) == 69) = false := by simpa using h69
                      have HT2 : Hid (tailOk (bytesOf a8) = true) := by rw [HT.out, hd, hb1, hb2, hb3]; rfl
                      clear h69 HT
                      go_wp2_with fail
                      refine (isdig_any _ _).mono ?_
                      rintro e w' ⟨rfl, h2⟩; rw [h2]; clear h2 w'
                      rw [hd]
                      go_wp2_with fail
                      go_meet
                      case rel => exact ⟨rfl, HT2.out⟩
              · go_wp2_with fail
                refine (isdig_any _ _).mono ?_
                rintro e w' ⟨rfl, h2⟩; rw [h2]; clear h2 w'
                rw [hd]
                go_wp2_with fail
                go_ret
                exact ⟨rfl, Below.refl _ _⟩
            · have HT : Hid (tailOk (bytesOf a8) = true) := tail_empty (by rw [bytesOf_length]; omega)
              go_wp2_with fail
              go_meet
              case rel => exact ⟨rfl, HT.out⟩
          case rest => as_aux_lemma =>
            obtain ⟨h2, htl⟩ := hcut; rw [h2]; clear h2 wc
            have HT : Hid (tailOk (bytesOf a8) = true) := htl
            clear htl
            have hn0 : (a1.size : Int) + a3.size + a7.size + a8.size + 4 = ((a1.size + a3.size + a7.size + a8.size + 4 : Nat) : Int) := by omega
            have HN0 : Hid ((a1.size : Int) + a3.size + a7.size + a8.size + 4 = ((a1.size + a3.size + a7.size + a8.size + 4 : Nat) : Int)) := hn0
            clear hn0
            go_upto_if 139 with (at_make; refine make_law rfl _ _ rfl (a1.size + a3.size + a7.size + a8.size + 4) rfl (congrArg (Value.int .i64) HN0.out) (by omega) ?_; intro v1 w1 hb1)
            clear HN0
            go_cut [20] from 139 to 142 (fun v w2 => Buf w w2 v (negOf a0))
            case first => as_aux_lemma =>
              cases a0
              · go_wp2_with fail
                go_meet
                case rel => exact hb1
              · go_wp2_with (at_builtin; refine push_law hb1 (by simp) rfl _ _ rfl rfl rfl ?_; intro v2 w2 hb2)
                go_meet
                case rel => exact hb2
            case rest => as_aux_lemma =>
              clear hb1
              have HB : Hid (Buf w wc u20 (negOf a0)) := hcut
              clear hcut
              have hl0 : ((negOf a0).length : Int) ≤ 1 := by cases a0 <;> decide
              go_upto_block 0 with fail
              go_cut [20] from 143 to 154 (fun v w2 => Buf w w2 v (negOf a0 ++ bytesOf a1))
              case first => as_aux_lemma =>
                go_wp2_with fail
                go_loopg [20, 21] a1.size (fun g v i wr => ∃ k : Nat, k ≤ a1.size ∧ a1.size - k ≤ g ∧ i = .int .i64 (k : Int) ∧ Buf w wr v (negOf a0 ++ (bytesOf a1).take k))
                case atStart => exact ⟨0, Nat.zero_le _, by omega, rfl, by simpa using HB.out⟩
                case round =>
                  obtain ⟨k, hk, hg, rfl, hbuf⟩ := hrel
                  have hlt' := List.length_take_le k (bytesOf a1)
                  by_cases hlt : k < a1.size
                  · have HT1 : Hid ((bytesOf a1).take (k + 1) = (bytesOf a1).take k ++ [(a1[k].toNat : Int)]) := bytesOf_take a1 k hlt
                    go_wp2_with (at_builtin; refine push_law hbuf (by simp; omega) rfl _ _ rfl rfl rfl ?_; intro v2 w2 hb2)
                    go_roundg (gk - 1)
                    case measure => omega
                    case rel => exact ⟨k + 1, by omega, by omega, by go_num, by rw [HT1.out, ← List.append_assoc]; exact hb2⟩
                  · have HE : Hid ((bytesOf a1).take k = bytesOf a1) := List.take_of_length_le (by rw [bytesOf_length]; omega)
                    go_wp2_with fail
                    go_meet
                    case rel => rw [HE.out] at hbuf; exact hbuf
              case rest => as_aux_lemma =>
                clear HB
                obtain ⟨P, hP⟩ : ∃ P, P = negOf a0 ++ bytesOf a1 := ⟨_, rfl⟩
                rw [← hP] at hcut
                have hPl : (P.length : Int) ≤ 1 + a1.size := by rw [hP, List.length_append, bytesOf_length]; omega
                have HP : Hid (P = negOf a0 ++ bytesOf a1) := hP
                have HB : Hid (Buf w wc u20 P) := hcut
                clear hcut hP
                go_upto_if 155 with fail
                go_cut [20] from 155 to 170 (fun v w2 => Buf w w2 v (P ++ fracOf a2 (bytesOf a3)))
                case first => as_aux_lemma =>
                  have hb1 := HB.out
                  cases a2
                  · go_wp2_with fail
                    go_meet
                    case rel => simpa [fracOf] using hb1
                  · go_wp2_with (at_builtin; refine push_law hb1 (by omega) rfl _ _ rfl rfl rfl ?_; intro v2 w2 hb2)
                    clear hb1
                    go_loopg [20, 22] a3.size (fun g v i wr => ∃ k : Nat, k ≤ a3.size ∧ a3.size - k ≤ g ∧ i = .int .i64 (k : Int) ∧ Buf w wr v (P ++ [46] ++ (bytesOf a3).take k))
                    case atStart => exact ⟨0, Nat.zero_le _, by omega, rfl, by simpa using hb2⟩
                    case round =>
                      clear hb2
                      obtain ⟨k, hk, hg, rfl, hbuf⟩ := hrel
                      have hlt' := List.length_take_le k (bytesOf a3)
                      by_cases hlt : k < a3.size
                      · have HT1 : Hid ((bytesOf a3).take (k + 1) = (bytesOf a3).take k ++ [(a3[k].toNat : Int)]) := bytesOf_take a3 k hlt
                        go_wp2_with (at_builtin; refine push_law hbuf (by simp; omega) rfl _ _ rfl rfl rfl ?_; intro v3 w3 hb3)
                        go_roundg (gk - 1)
                        case measure => omega
                        case rel => exact ⟨k + 1, by omega, by omega, by go_num, by rw [HT1.out, ← List.append_assoc]; exact hb3⟩
                      · have HE : Hid ((bytesOf a3).take k = bytesOf a3) := List.take_of_length_le (by rw [bytesOf_length]; omega)
                        go_wp2_with fail
                        go_meet
                        case rel => rw [HE.out] at hbuf; simpa [fracOf] using hbuf
                case rest => as_aux_lemma =>
                  clear HB
                  obtain ⟨P2, hP⟩ : ∃ P2, P2 = P ++ fracOf a2 (bytesOf a3) := ⟨_, rfl⟩
                  rw [← hP] at hcut
                  have hPl2 : (P2.length : Int) ≤ 2 + a1.size + a3.size := by
                    have := fracOf_len a2 (bytesOf a3)
                    rw [hP, List.length_append]; rw [bytesOf_length] at this; omega
                  have HP2 : Hid (P2 = P ++ fracOf a2 (bytesOf a3)) := hP
                  have HB : Hid (Buf w wc u20 P2) := hcut
                  clear hcut hP hPl
                  go_upto_if 171 with fail
                  go_cut [20] from 171 to 200 (fun v w2 => Buf w w2 v (P2 ++ expOf a4 a5 a6 (bytesOf a7)))
                  case first => as_aux_lemma =>
                    have hb1 := HB.out
                    cases a4
                    · go_wp2_with fail
                      go_meet
                      case rel => simpa [expOf] using hb1
                    · go_upto_if 172 with fail
                      go_cut [20] from 172 to 178 (fun v w2 => Buf w w2 v (P2 ++ [if a5 = true then 69 else 101]))
                      case first =>
                        cases a5
                        · go_wp2_with (at_builtin; refine push_law hb1 (by omega) rfl _ _ rfl rfl rfl ?_; intro v2 w2 hb2)
                          go_meet
                          case rel => exact hb2
                        · go_wp2_with (at_builtin; refine push_law hb1 (by omega) rfl _ _ rfl rfl rfl ?_; intro v2 w2 hb2)
                          go_meet
                          case rel => exact hb2
                      case rest => as_aux_lemma =>
                        clear hb1 HB
                        obtain ⟨P3, hP⟩ : ∃ P3, P3 = P2 ++ [if a5 = true then 69 else 101] := ⟨_, rfl⟩
                        rw [← hP] at hcut
                        have hPl3 : (P3.length : Int) ≤ 3 + a1.size + a3.size := by rw [hP]; simp; omega
                        have HP3 : Hid (P3 = P2 ++ [if a5 = true then 69 else 101]) := hP
                        have hb1 := hcut
                        clear hcut hP hPl2
                        go_upto_if 180 with fail
                        go_cut [20] from 179 to 188 (fun v w2 => Buf w w2 v (P3 ++ signOf a6))
                        case first =>
                          by_cases hs1 : a6 < 0
                          · have HS : Hid (signOf a6 = [45]) := if_pos hs1
                            go_wp2_with (at_builtin; refine push_law hb1 (by omega) rfl _ _ rfl rfl rfl ?_; intro v2 w2 hb2)
                            go_meet
                            case rel => rw [HS.out]; exact hb2
                          · by_cases hs2 : 0 < a6
                            · have HS : Hid (signOf a6 = [43]) := by unfold signOf; rw [if_neg hs1, if_pos hs2]; rfl
                              go_wp2_with (at_builtin; refine push_law hb1 (by omega) rfl _ _ rfl rfl rfl ?_; intro v2 w2 hb2)
                              go_meet
                              case rel => rw [HS.out]; exact hb2
                            · have HS : Hid (signOf a6 = []) := by unfold signOf; rw [if_neg hs1, if_neg hs2]; rfl
                              go_wp2_with fail
                              go_meet
                              case rel => rw [HS.out, List.append_nil]; exact hb1
                        case rest => as_aux_lemma =>
                          clear hb1
                          obtain ⟨P4, hP⟩ : ∃ P4, P4 = P3 ++ signOf a6 := ⟨_, rfl⟩
                          rw [← hP] at hcut
                          have hPl4 : (P4.length : Int) ≤ 4 + a1.size + a3.size := by
                            have := signOf_len a6
                            rw [hP, List.length_append]; omega
                          have HP4 : Hid (P4 = P3 ++ signOf a6) := hP
                          have hb1 := hcut
                          clear hcut hP hPl3
                          go_wp2_with fail
                          go_loopg [20, 23] a7.size (fun g v i wr => ∃ k : Nat, k ≤ a7.size ∧ a7.size - k ≤ g ∧ i = .int .i64 (k : Int) ∧ Buf w wr v (P4 ++ (bytesOf a7).take k))
                          case atStart => exact ⟨0, Nat.zero_le _, by omega, rfl, by simpa using hb1⟩
                          case round =>
                            clear hb1
                            obtain ⟨k, hk, hg, rfl, hbuf⟩ := hrel
                            have hlt' := List.length_take_le k (bytesOf a7)
                            by_cases hlt : k < a7.size
                            · have HT1 : Hid ((bytesOf a7).take (k + 1) = (bytesOf a7).take k ++ [(a7[k].toNat : Int)]) := bytesOf_take a7 k hlt
                              go_wp2_with (at_builtin; refine push_law hbuf (by simp; omega) rfl _ _ rfl rfl rfl ?_; intro v3 w3 hb3)
                              go_roundg (gk - 1)
                              case measure => omega
                              case rel => exact ⟨k + 1, by omega, by omega, by go_num, by rw [HT1.out, ← List.append_assoc]; exact hb3⟩
                            · have HE : Hid ((bytesOf a7).take k = bytesOf a7) := List.take_of_length_le (by rw [bytesOf_length]; omega)
                              go_wp2_with fail
                              go_meet
                              case rel =>
                                rw [HE.out, HP4.out, HP3.out] at hbuf
                                simpa [expOf, List.append_assoc] using hbuf
                  case rest => as_aux_lemma =>
                    clear HB
                    obtain ⟨P5, hP⟩ : ∃ P5, P5 = P2 ++ expOf a4 a5 a6 (bytesOf a7) := ⟨_, rfl⟩
                    rw [← hP] at hcut
                    have hPl5 : (P5.length : Int) ≤ 4 + a1.size + a3.size + a7.size := by
                      have := expOf_len a4 a5 a6 (bytesOf a7)
                      rw [hP, List.length_append]; rw [bytesOf_length] at this; omega
                    have hPp : 0 < P5.length := by rw [hP, HP2.out, HP.out]; simp [bytesOf_length]; omega
                    have HN : Hid (∀ tail, numF (P5 ++ tail) 0 = (P5.length, true) ∨ tailOk tail = false) := by
                      intro tail
                      cases ht : tailOk tail
                      · exact .inr rfl
                      · left
                        have hne : bytesOf a1 ≠ [] := by intro h; have h2 := bytesOf_length a1; rw [h, List.length_nil] at h2; omega
                        have := numF_of (zs := P5 ++ tail) (neg := a0) (wh := bytesOf a1) (hf := a2) (fr := bytesOf a3) (has := a4) (up := a5) (sg := a6) (ex := bytesOf a7) (tail := tail) (by rw [hP, HP2.out, HP.out]; simp [List.append_assoc])
                          ⟨hne, HD1.out⟩ (lead_out HL.out) (bad_out HF.out) (bad_out HX.out) ht
                        rw [this, hP, HP2.out, HP.out]; simp [Nat.add_assoc]
                    have hb1 := hcut
                    clear hcut hP hPl2 HP HP2 HD1 HL HF HX
                    obtain ⟨g, cap, rfl, hg, _⟩ := hb1.shape hPp
                    go_upto_block 6 with fail
                    have HB : Hid (Buf w wc (.slice (some ⟨g, 0, none⟩) P5.length cap) P5) := hb1
                    clear hb1 hg
                    go_cut [20] from 203 to 214 (fun v w2 => Buf w w2 v (P5 ++ bytesOf a8))
                    case first => as_aux_lemma =>
                      go_wp2_with fail
                      go_loopg [20, 25] a8.size (fun g v i wr => ∃ k : Nat, k ≤ a8.size ∧ a8.size - k ≤ g ∧ i = .int .i64 (k : Int) ∧ Buf w wr v (P5 ++ (bytesOf a8).take k))
                      case atStart => exact ⟨0, Nat.zero_le _, by omega, rfl, by simpa using HB.out⟩
                      case round =>
                        obtain ⟨k, hk, hg, rfl, hbuf⟩ := hrel
                        have hlt' := List.length_take_le k (bytesOf a8)
                        by_cases hlt : k < a8.size
                        · have HT1 : Hid ((bytesOf a8).take (k + 1) = (bytesOf a8).take k ++ [(a8[k].toNat : Int)]) := bytesOf_take a8 k hlt
                          go_wp2_with (at_builtin; refine push_law hbuf (by simp; omega) rfl _ _ rfl rfl rfl ?_; intro v3 w3 hb3)
                          go_roundg (gk - 1)
                          case measure => omega
                          case rel => exact ⟨k + 1, by omega, by omega, by go_num, by rw [HT1.out, ← List.append_assoc]; exact hb3⟩
                        · have HE : Hid ((bytesOf a8).take k = bytesOf a8) := List.take_of_length_le (by rw [bytesOf_length]; omega)
                          go_wp2_with fail
                          go_meet
                          case rel => rw [HE.out] at hbuf; exact hbuf
                    case rest => as_aux_lemma =>
                      clear HB
                      obtain ⟨Z, hZ⟩ : ∃ Z, Z = P5 ++ bytesOf a8 := ⟨_, rfl⟩
                      rw [← hZ] at hcut
                      have hZl : (Z.length : Int) ≤ 4194304 := by rw [hZ, List.length_append, bytesOf_length]; omega
                      have hZp : 0 < Z.length := by rw [hZ, List.length_append]; omega
                      have HV : Hid (numF Z 0 = (P5.length, true)) := by
                        rcases HN.out (bytesOf a8) with h | h
                        · rw [hZ]; exact h
                        · rw [HT.out] at h; cases h
                      obtain ⟨g2, cap2, rfl, hg2, hz2⟩ := hcut.shape hZp
                      have hs := scan_any wc g2 0 cap2 Z 0 hz2 hg2 hZp hZl
                      rw [HV.out] at hs
                      have HS : Hid (Calls Trym.prog 9 #[.slice (some ⟨g2, 0, none⟩) Z.length cap2, .int .i64 0] wc fun e w' => e = .returned (.tuple #[.int .i64 (P5.length : Int), .bool true]) ∧ Below wc.heap.size wc w') := hs
                      have HBe : Hid (Below w.heap.size w wc) := hcut.below
                      clear hs hz2 hcut hZ HN HV HT
                      go_wp2_with fail
                      refine Calls.mono HS.out ?_
                      rintro e w' ⟨rfl, hbel⟩
                      have HF : Hid (Below w.heap.size w w') := HBe.out.trans (hbel.mono HBe.out.size)
                      clear hbel HBe HS
                      go_wp2_with fail
                      go_ret
                      exact ⟨by simp, HF.out⟩
  · go_enter Trym.func6, Trym.ntmps6
    go_wp2_with fail
    refine (bytes9_no a0 a2 a4 a5 a6 a1 a3 a7 a8 _ (by omega) w1 w3 w7 w8).mono ?_
    rintro e w' ⟨rfl, h2⟩; rw [h2]; clear h2 w'
    go_wp2_with fail
    go_ret
    exact ⟨rfl, Below.refl _ _⟩
end Go.Proofs.Qxb6001061aMods
