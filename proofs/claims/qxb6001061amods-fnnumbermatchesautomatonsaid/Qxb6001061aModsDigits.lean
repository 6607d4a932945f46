import Derived.Test.Qxb6001061aModsRows
import Derived.Test.Qxb6001061aModsPlain
import Derived.WalkKit
import Derived.ProofKit
import Derived.OpenShut
import Derived.BigQuiet
import Derived.WalkSmall
import Derived.Deep.LoopGhost
import Derived.Deep.DeepCutAuto
namespace Go.Proofs.Qxb6001061aMods
open Go.ChangeShapes Go.WideShapes Go.ChangeAt Go.RowKit

/-- A scanner in block s, over the bytes zs at ⟨b, off⟩, standing at i. -/
structure Scn (w : World) (s b off cap : Nat) (zs : List Int) (i : Nat) : Prop where
  d : w.cell? ⟨s, 0, none⟩ = some (.slice (some ⟨b, off, none⟩) zs.length cap)
  i : w.cell? ⟨s, 1, none⟩ = some (.int .i64 (i : Int))
  f : w.frozen? ⟨s, 1, none⟩ = false
  z : ∀ k, k < zs.length → w.cell? ⟨b, off + k, none⟩ = some (.int .u8 (zs[k]?.getD 0))
  lt : b < s

theorem Scn.drewN {w : World} {s b off cap : Nat} {zs : List Int} {i : Nat} (h : Scn w s b off cap zs i) (n : Nat) : Scn (w.drewN n) s b off cap zs i :=
  ⟨by simpa using h.d, by simpa using h.i, by simpa using h.f, by simpa using h.z, h.lt⟩

theorem Scn.put {w : World} {s b off cap : Nat} {zs : List Int} {i : Nat} (h : Scn w s b off cap zs i) (j : Nat) : Scn (w.setCell ⟨s, 1, none⟩ (.int .i64 (j : Int))) s b off cap zs j := by
  have hlt := h.lt
  refine ⟨?_, World.cell?_setCell_same _ _ _ h.i, ?_, ?_, hlt⟩
  · rw [World.cell?_setCell_other _ _ _ _ (by simp)]; exact h.d
  · rw [World.frozen?_setCell]; exact h.f
  · intro k hk
    rw [World.cell?_setCell_other _ _ _ _ (by intro e; have := congrArg Addr.block e; simp at this; omega)]
    exact h.z k hk

set_option maxHeartbeats 1000000 in
theorem digits_any (w : World) (s b off cap : Nat) (zs : List Int) (i : Nat) (hS : Scn w s b off cap zs i) (hi : i ≤ zs.length) (hl : (zs.length : Int) ≤ 4194304) :
    Calls Trym.prog 19 #[.pointer (some ⟨s, 0, none⟩)] w fun e w' => e = .returned (.bool (decide (i < digEnd zs i))) ∧ Scn w' s b off cap zs (digEnd zs i) ∧ Below s w w' := by
  have h0 := hS.d
  have h1 := hS.i
  go_enter Trym.func19, Trym.ntmps19
  go_wp2
  clear h0 h1
  go_loopg [] zs.length (fun k wr => ∃ j : Nat, i ≤ j ∧ j ≤ zs.length ∧ digEnd zs j = digEnd zs i ∧ zs.length - j ≤ k ∧ Scn wr s b off cap zs j ∧ Below s w wr)
  case atStart => exact ⟨i, Nat.le_refl _, hi, rfl, by omega, hS, Below.refl _ _⟩
  case round =>
    obtain ⟨j, hij, hjl, hE, hk, hR, hB⟩ := hrel
    have HE : Hid (digEnd zs j = digEnd zs i) := hE
    clear hE
    have h0 := hR.d
    have h1 := hR.i
    have h2 := hR.f
    by_cases hlt : (j : Int) < (zs.length : Int)
    · have h3 := hR.z j (by omega)
      generalize hc : zs[j]?.getD 0 = c at h3
      by_cases hd1 : 48 ≤ c
      · by_cases hd2 : c ≤ 57
        · have hd : isDig (zs.getD j 0) = true := by rw [isDig_iff, List.getD_eq_getElem?_getD, hc]; exact ⟨hd1, hd2⟩
          have HN : Hid (digEnd zs j = digEnd zs (j + 1)) := digEnd_step (by omega) hd
          have HR : Hid (Scn wr s b off cap zs j) := hR
          have HC : Hid (zs[j]?.getD 0 = c) := hc
          clear hc hd hR
          go_wp2_with fail
          go_quiet (fail)
          go_wp2
          go_roundg (gk - 1)
          case measure => omega
          case rel =>
            refine ⟨j + 1, by omega, by omega, HN.out.symm.trans HE.out, by omega, ?_, ?_⟩
            · exact (HR.out.drewN _).put (j + 1)
            · exact (below_drewN hB _).setCell (Nat.le_refl _) _
        · have hd : isDig (zs.getD j 0) = false := by rw [isDig_no, List.getD_eq_getElem?_getD, hc]; omega
          have HN : Hid (digEnd zs j = j) := digEnd_stop (by omega) hd
          have HR : Hid (Scn wr s b off cap zs j) := hR
          have hd2' : decide (c ≤ 57) = false := by simpa using hd2
          clear hc hd hR hd2
          go_wp2_with fail
          go_quiet (fail)
          go_wp2
          go_ret
          rw [← HE.out, HN.out]
          exact ⟨rfl, HR.out.drewN _, below_drewN hB _⟩
      · have hd : isDig (zs.getD j 0) = false := by rw [isDig_no, List.getD_eq_getElem?_getD, hc]; omega
        have HN : Hid (digEnd zs j = j) := digEnd_stop (by omega) hd
        have HR : Hid (Scn wr s b off cap zs j) := hR
        have hd1' : decide (48 ≤ c) = false := by simpa using hd1
        clear hc hd hR hd1
        go_wp2_with fail
        go_quiet (fail)
        go_wp2
        go_ret
        rw [← HE.out, HN.out]
        exact ⟨rfl, HR.out.drewN _, below_drewN hB _⟩
    · have HN : Hid (digEnd zs j = j) := digEnd_end (by omega)
      have HR : Hid (Scn wr s b off cap zs j) := hR
      have hlt' : decide (j < zs.length) = false := by simp; omega
      clear hR hlt
      go_wp2_with fail
      go_quiet (fail)
      go_wp2
      go_ret
      rw [← HE.out, HN.out]
      exact ⟨rfl, HR.out.drewN _, below_drewN hB _⟩
end Go.Proofs.Qxb6001061aMods
