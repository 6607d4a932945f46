import Derived.Test.Qxb6001061aModsDigits
namespace Go.Proofs.Qxb6001061aMods
open Go.ChangeShapes Go.WideShapes Go.ChangeAt Go.RowKit

theorem put_below {s : Nat} {w w1 : World} (h : Below s w w1) {v : Value} : Below s w (w1.setCell ⟨s, 1, none⟩ v) := h.setCell (p := ⟨s, 1, none⟩) (Nat.le_refl s) v

set_option maxRecDepth 100000 in
set_option maxHeartbeats 2000000 in
theorem number_any (w : World) (s b off cap : Nat) (zs : List Int) (i : Nat) (hS : Scn w s b off cap zs i) (hi : i < zs.length) (hl : (zs.length : Int) ≤ 4194304) :
    Calls Trym.prog 16 #[.pointer (some ⟨s, 0, none⟩)] w fun e w' => e = .returned (.bool (numF zs i).2) ∧ Scn w' s b off cap zs (numF zs i).1 ∧ Below s w w' := by
  generalize hF : numF zs i = F
  have h0 := hS.d
  have h1 := hS.i
  have h3 := hS.z i hi
  have hi' : (i : Int) < (zs.length : Int) := by omega
  generalize hc : zs[i]?.getD 0 = c at h3
  have HC : Hid (zs[i]?.getD 0 = c) := hc
  have HF : Hid (numF zs i = F) := hF
  have HS : Hid (Scn w s b off cap zs i) := hS
  clear hS hc hF
  go_enter Trym.func16, Trym.ntmps16
  go_wp2_with fail
  go_quiet (fail)
  go_upto_if 13 with fail
  go_cut [] (fun w1 => ∃ i1 : Nat, i1 ≤ zs.length ∧ intF zs i1 = F ∧ Scn w1 s b off cap zs i1 ∧ Below s w w1)
  case first => as_aux_lemma =>
    clear h0 h3
    have h2 := HS.out.f
    by_cases hm : c = 45
    · have hb : (c == 45) = true := by simpa using hm
      have H1 : Hid (intF zs (i + 1) = F) := by rw [← num_minus (by rw [HC.out, hm])]; exact HF.out
      clear hm
      go_wp2_with fail
      go_meet
      case rel => exact ⟨i + 1, by omega, H1.out, (HS.out.drewN _).put (i + 1), put_below (below_drewN (Below.refl s w) _)⟩
    · have hb : (c == 45) = false := by simpa using hm
      have H1 : Hid (intF zs i = F) := by rw [← num_plain (by rw [HC.out]; exact hm)]; exact HF.out
      clear hm
      go_wp2_with fail
      go_meet
      case rel => exact ⟨i, by omega, H1.out, HS.out.drewN _, below_drewN (Below.refl _ _) _⟩
  case rest => as_aux_lemma =>
    clear h0 h1 h3 HC HF HS hi hi'
    obtain ⟨i1, hi1, hF1, hS1, hB1⟩ := hcut
    have HF : Hid (intF zs i1 = F) := hF1
    have HS : Hid (Scn wc s b off cap zs i1) := hS1
    have h0 := hS1.d
    have h1 := hS1.i
    clear hF1 hS1
    by_cases he : i1 = zs.length
    · have hb : ((i1 : Int) == (zs.length : Int)) = true := by simp; omega
      have hb2 : (i1 == zs.length) = true := by simpa using he
      have HV : Hid (F = (i1, false)) := by rw [← HF.out]; exact int_end he
      clear he
      go_wp2_with fail
      go_quiet (fail)
      go_wp2_with fail
      go_ret
      rw [HV.out]
      exact ⟨rfl, HS.out.drewN _, below_drewN hB1 _⟩
    · have hb : ((i1 : Int) == (zs.length : Int)) = false := by simp; omega
      have hb2 : (i1 == zs.length) = false := by simpa using he
      have h3 := HS.out.z i1 (by omega)
      have hi1' : (i1 : Int) < (zs.length : Int) := by omega
      generalize hc : zs[i1]?.getD 0 = c at h3
      have HC : Hid (zs[i1]?.getD 0 = c) := hc
      have HE : Hid (¬ i1 = zs.length) := he
      clear hc he
      go_wp2_with fail
      go_quiet (fail)
      go_wp2_with fail
      go_quiet (fail)
      clear hb hb2
      go_upto_if 41 with fail
      go_cut [] (fun w1 => ∃ i2 : Nat, i2 ≤ zs.length ∧ fracF zs i2 = F ∧ Scn w1 s b off cap zs i2 ∧ Below s w w1)
      case first => as_aux_lemma =>
        have h2 := HS.out.f
        by_cases hm : c = 48
        · have hb : (c == 48) = true := by simpa using hm
          have H1 : Hid (fracF zs (i1 + 1) = F) := by rw [← int_zero HE.out (by rw [HC.out, hm])]; exact HF.out
          clear hm
          go_wp2_with fail
          go_meet
          case rel => exact ⟨i1 + 1, by omega, H1.out, (HS.out.drewN _).put (i1 + 1), put_below (below_drewN hB1 _)⟩
        · have hb : (c == 48) = false := by simpa using hm
          have HM : Hid (¬ zs[i1]?.getD 0 = 48) := by rw [HC.out]; exact hm
          clear hm
          by_cases hd : i1 < digEnd zs i1
          · have H1 : Hid (fracF zs (digEnd zs i1) = F) := by rw [← int_digs HE.out HM.out hd]; exact HF.out
            have hdb : decide (i1 < digEnd zs i1) = true := by simpa using hd
            have H2 : Hid (digEnd zs i1 ≤ zs.length) := digEnd_le zs hi1
            clear hd
            go_wp2_with fail
            refine (digits_any _ s b off cap zs i1 (HS.out.drewN _) hi1 hl).mono ?_
            rintro e w' ⟨rfl, hS2, hB2⟩
            rw [hdb]
            have HS2 : Hid (Scn w' s b off cap zs (digEnd zs i1)) := hS2
            have HB2 : Hid (Below s w w') := (below_drewN hB1 _).trans hB2
            clear hS2 hB2 hdb
            go_wp2_with fail
            go_meet
            case rel => exact ⟨digEnd zs i1, H2.out, H1.out, HS2.out, HB2.out⟩
          · have H1 : Hid (F = (digEnd zs i1, false)) := by rw [← HF.out]; exact int_none HE.out HM.out hd
            have hdb : decide (i1 < digEnd zs i1) = false := by simpa using hd
            clear hd
            go_wp2_with fail
            refine (digits_any _ s b off cap zs i1 (HS.out.drewN _) hi1 hl).mono ?_
            rintro e w' ⟨rfl, hS2, hB2⟩
            rw [hdb]
            have HS2 : Hid (Scn w' s b off cap zs (digEnd zs i1)) := hS2
            have HB2 : Hid (Below s w w') := (below_drewN hB1 _).trans hB2
            clear hS2 hB2 hdb
            go_wp2_with fail
            go_ret
            rw [H1.out]
            exact ⟨rfl, HS2.out, HB2.out⟩
      case rest => as_aux_lemma =>
        clear h0 h1 h3 HC HF HS HE hi1 hi1' hB1
        obtain ⟨i2, hi2, hF1, hS1, hB2⟩ := hcut
        have HF : Hid (fracF zs i2 = F) := hF1
        have HS : Hid (Scn wc s b off cap zs i2) := hS1
        clear hF1 hS1
        go_upto_region 9 with fail
        go_cut [74] (fun t w1 => t = .bool (dotB zs i2) ∧ ∃ n, w1 = wc.drewN n)
        case first => as_aux_lemma =>
          have h0 := HS.out.d
          have h1 := HS.out.i
          by_cases hlt : (i2 : Int) < (zs.length : Int)
          · have h3 := HS.out.z i2 (by omega)
            generalize hc : zs[i2]?.getD 0 = c at h3
            have HD : Hid (dotB zs i2 = (c == 46)) := dotB_in (by omega) hc
            clear hc
            go_quiet (fail)
            go_wp2_with fail
            go_meet
            case rel => rw [HD.out]; exact ⟨rfl, _, rfl⟩
          · have hlt' : decide (i2 < zs.length) = false := by simp; omega
            have HD : Hid (dotB zs i2 = false) := dotB_end (by omega)
            clear hlt
            go_quiet (fail)
            go_wp2_with fail
            go_meet
            case rel => rw [HD.out]; exact ⟨rfl, _, rfl⟩
        case rest => as_aux_lemma =>
          obtain ⟨rfl, n1, rfl⟩ := hcut
          go_upto_if 74 with fail
          go_cut [] (fun w1 => ∃ i3 : Nat, i3 ≤ zs.length ∧ expF zs i3 = F ∧ Scn w1 s b off cap zs i3 ∧ Below s w w1)
          case first => as_aux_lemma =>
            cases hd : dotB zs i2
            · have H1 : Hid (expF zs i2 = F) := by rw [← frac_no hd]; exact HF.out
              clear hd
              go_wp2_with fail
              go_meet
              case rel => exact ⟨i2, hi2, H1.out, HS.out.drewN _, below_drewN hB2 _⟩
            · have hlt := dotB_lt hd
              have HD : Hid (dotB zs i2 = true) := hd
              have h0 := HS.out.d
              have h1 := HS.out.i
              have h2 := HS.out.f
              clear hd
              by_cases hd : i2 + 1 < digEnd zs (i2 + 1)
              · have H1 : Hid (expF zs (digEnd zs (i2 + 1)) = F) := by rw [← frac_digs HD.out hd]; exact HF.out
                have hdb : decide (i2 + 1 < digEnd zs (i2 + 1)) = true := by simpa using hd
                have H2 : Hid (digEnd zs (i2 + 1) ≤ zs.length) := digEnd_le zs hlt
                clear hd
                go_wp2_with fail
                refine (digits_any _ s b off cap zs (i2 + 1) ((HS.out.drewN _).put (i2 + 1)) hlt hl).mono ?_
                rintro e w' ⟨rfl, hS2, hB3⟩
                rw [hdb]
                have HS2 : Hid (Scn w' s b off cap zs (digEnd zs (i2 + 1))) := hS2
                have HB2 : Hid (Below s w w') := (put_below (below_drewN hB2 _)).trans hB3
                clear hS2 hB3 hdb h0 h1 h2
                go_wp2_with fail
                go_meet
                case rel => exact ⟨digEnd zs (i2 + 1), H2.out, H1.out, HS2.out, HB2.out⟩
              · have H1 : Hid (F = (digEnd zs (i2 + 1), false)) := by rw [← HF.out]; exact frac_none HD.out hd
                have hdb : decide (i2 + 1 < digEnd zs (i2 + 1)) = false := by simpa using hd
                clear hd
                go_wp2_with fail
                refine (digits_any _ s b off cap zs (i2 + 1) ((HS.out.drewN _).put (i2 + 1)) hlt hl).mono ?_
                rintro e w' ⟨rfl, hS2, hB3⟩
                rw [hdb]
                have HS2 : Hid (Scn w' s b off cap zs (digEnd zs (i2 + 1))) := hS2
                have HB2 : Hid (Below s w w') := (put_below (below_drewN hB2 _)).trans hB3
                clear hS2 hB3 hdb h0 h1 h2
                go_wp2_with fail
                go_ret
                rw [H1.out]
                exact ⟨rfl, HS2.out, HB2.out⟩
          case rest => as_aux_lemma =>
            clear HF HS hi2 hB2
            obtain ⟨i3, hi3, hF1, hS1, hB3⟩ := hcut
            have HF : Hid (expF zs i3 = F) := hF1
            have HS : Hid (Scn wc s b off cap zs i3) := hS1
            clear hF1 hS1
            go_upto_region 13 with fail
            go_cut [120] (fun t w1 => t = .bool (expB zs i3) ∧ ∃ n, w1 = wc.drewN n)
            case first => as_aux_lemma =>
              have h0 := HS.out.d
              have h1 := HS.out.i
              by_cases hlt : (i3 : Int) < (zs.length : Int)
              · have h3 := HS.out.z i3 (by omega)
                generalize hc : zs[i3]?.getD 0 = c at h3
                have HD : Hid (expB zs i3 = (c == 101 || c == 69)) := expB_in (by omega) hc
                clear hc
                by_cases hm : c = 101
                · have hb : (c == 101) = true := by simpa using hm
                  have HM : Hid (expB zs i3 = true) := by rw [HD.out, hb]; rfl
                  clear hm
                  go_quiet (fail)
                  go_wp2_with fail
                  go_meet
                  case rel => rw [HM.out]; exact ⟨rfl, _, rfl⟩
                · have hb : (c == 101) = false := by simpa using hm
                  have HM : Hid (expB zs i3 = (c == 69)) := by rw [HD.out, hb]; rfl
                  clear hm
                  go_quiet (fail)
                  go_wp2_with fail
                  go_meet
                  case rel => rw [HM.out]; exact ⟨rfl, _, rfl⟩
              · have hlt' : decide (i3 < zs.length) = false := by simp; omega
                have HD : Hid (expB zs i3 = false) := expB_end (by omega)
                clear hlt
                go_quiet (fail)
                go_wp2_with fail
                go_meet
                case rel => rw [HD.out]; exact ⟨rfl, _, rfl⟩
            case rest => as_aux_lemma =>
              obtain ⟨rfl, n1, rfl⟩ := hcut
              go_upto_if 120 with fail
              cases hd : expB zs i3
              · have H1 : Hid (F = (i3, true)) := by rw [← HF.out]; exact exp_no hd
                clear hd
                go_wp2_with fail
                go_ret
                rw [H1.out]
                exact ⟨rfl, HS.out.drewN _, below_drewN hB3 _⟩
              · have hlt := expB_lt hd
                have HF4 : Hid (sgnF zs (i3 + 1) = F) := by rw [← exp_yes hd]; exact HF.out
                have h0 := HS.out.d
                have h1 := HS.out.i
                have h2 := HS.out.f
                clear hd HF
                go_upto_region 15 with fail
                have HS4 : Hid (Scn ((wc.drewN n1).setCell ⟨s, 1, none⟩ (.int .i64 ((i3 : Int) + 1))) s b off cap zs (i3 + 1)) := (HS.out.drewN _).put (i3 + 1)
                have HB4 : Hid (Below s w ((wc.drewN n1).setCell ⟨s, 1, none⟩ (.int .i64 ((i3 : Int) + 1)))) := put_below (below_drewN hB3 _)
                clear h0 h1 h2 HS hB3
                generalize (wc.drewN n1).setCell ⟨s, 1, none⟩ (.int .i64 ((i3 : Int) + 1)) = wd at HS4 HB4 ⊢
                have hi4 : i3 + 1 ≤ zs.length := hlt
                generalize i3 + 1 = i4 at HF4 HS4 hi4
                have HS := HS4
                have HF := HF4
                clear HS4 HF4 hlt hi3
                go_cut [163] (fun t w1 => t = .bool (sgnB zs i4) ∧ ∃ n, w1 = wd.drewN n)
                case first => as_aux_lemma =>
                  have h0 := HS.out.d
                  have h1 := HS.out.i
                  by_cases hlt : (i4 : Int) < (zs.length : Int)
                  · have h3 := HS.out.z i4 (by omega)
                    generalize hc : zs[i4]?.getD 0 = c at h3
                    have HD : Hid (sgnB zs i4 = (c == 43 || c == 45)) := sgnB_in (by omega) hc
                    clear hc
                    by_cases hm : c = 43
                    · have hb : (c == 43) = true := by simpa using hm
                      have HM : Hid (sgnB zs i4 = true) := by rw [HD.out, hb]; rfl
                      clear hm
                      go_quiet (fail)
                      go_wp2_with fail
                      go_meet
                      case rel => rw [HM.out]; exact ⟨rfl, _, rfl⟩
                    · have hb : (c == 43) = false := by simpa using hm
                      have HM : Hid (sgnB zs i4 = (c == 45)) := by rw [HD.out, hb]; rfl
                      clear hm
                      go_quiet (fail)
                      go_wp2_with fail
                      go_meet
                      case rel => rw [HM.out]; exact ⟨rfl, _, rfl⟩
                  · have hlt' : decide (i4 < zs.length) = false := by simp; omega
                    have HD : Hid (sgnB zs i4 = false) := sgnB_end (by omega)
                    clear hlt
                    go_quiet (fail)
                    go_wp2_with fail
                    go_meet
                    case rel => rw [HD.out]; exact ⟨rfl, _, rfl⟩
                case rest => as_aux_lemma =>
                  obtain ⟨rfl, n2, rfl⟩ := hcut
                  go_upto_if 163 with fail
                  go_cut [] (fun w1 => ∃ i5 : Nat, i5 ≤ zs.length ∧ endF zs i5 = F ∧ Scn w1 s b off cap zs i5 ∧ Below s w w1)
                  case first => as_aux_lemma =>
                    cases hd : sgnB zs i4
                    · have H1 : Hid (endF zs i4 = F) := by rw [← sgn_no hd]; exact HF.out
                      clear hd
                      go_wp2_with fail
                      go_meet
                      case rel => exact ⟨i4, hi4, H1.out, HS.out.drewN _, below_drewN HB4.out _⟩
                    · have hlt := sgnB_lt hd
                      have H1 : Hid (endF zs (i4 + 1) = F) := by rw [← sgn_yes hd]; exact HF.out
                      have h0 := HS.out.d
                      have h1 := HS.out.i
                      have h2 := HS.out.f
                      clear hd
                      go_wp2_with fail
                      go_meet
                      case rel => exact ⟨i4 + 1, hlt, H1.out, (HS.out.drewN _).put (i4 + 1), put_below (below_drewN HB4.out _)⟩
                  case rest => as_aux_lemma =>
                    clear HF HS hi4 HB4
                    obtain ⟨i5, hi5, hF1, hS1, hB5⟩ := hcut
                    have H1 : Hid (F = (digEnd zs i5, decide (i5 < digEnd zs i5))) := hF1.symm
                    clear hF1
                    cases hdb : decide (i5 < digEnd zs i5)
                    all_goals
                      rw [hdb] at H1
                      go_wp2_with fail
                      refine (digits_any _ s b off cap zs i5 hS1 hi5 hl).mono ?_
                      rintro e w' ⟨rfl, hS2, hB6⟩
                      rw [hdb]
                      have HS2 : Hid (Scn w' s b off cap zs (digEnd zs i5)) := hS2
                      have HB2 : Hid (Below s w w') := hB5.trans hB6
                      clear hS2 hB6 hdb
                      go_wp2_with fail
                      go_ret
                      rw [H1.out]
                      exact ⟨rfl, HS2.out, HB2.out⟩
end Go.Proofs.Qxb6001061aMods
