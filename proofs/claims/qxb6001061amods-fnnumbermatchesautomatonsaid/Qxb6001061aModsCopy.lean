import Derived.Test.Qxb6001061aModsRows
import Derived.WalkKit
import Derived.ProofKit
import Derived.OpenShut
import Derived.Deep.LoopGhost
import Derived.Deep.OwnRows
import Derived.WalkSpells
namespace Go.Proofs.Qxb6001061aMods
open Go.ChangeShapes Go.WideShapes Go.ChangeAt Go.RowKit

theorem Trym.infoB : (Trym.prog.info? 5).map (fun i => (i.zero, i.size, i.bytes)) = some (some (.int .u8 0), 1, 1) := by kernel_rfl

/-- What is copied so far. -/
def cpF (zs : List Int) (j k : Nat) : Value := .int .u8 (if k < j then zs[k]?.getD 0 else 0)

theorem cp_step {w : World} {B n : Nat} {zs : List Int} {j : Nat} (h : w.rowIs B 5 n (cpF zs j)) :
    (w.setCell ⟨B, j, none⟩ (.int .u8 (zs[j]?.getD 0))).rowIs B 5 n (cpF zs (j + 1)) := by
  refine (h.set j _).congr fun k _ => ?_
  by_cases e : k = j
  · subst e; simp [cpF]
  · unfold cpF
    rw [if_neg e]
    by_cases h2 : k < j
    · rw [if_pos h2, if_pos (by omega)]
    · rw [if_neg h2, if_neg (by omega)]

set_option maxHeartbeats 1000000 in
theorem copy_any (w : World) (b off cap : Nat) (zs : List Int) (hz : ∀ k, k < zs.length → w.cell? ⟨b, off + k, none⟩ = some (.int .u8 (zs[k]?.getD 0)))
    (hb : b < w.heap.size) (hl : (zs.length : Int) ≤ 4194304) :
    Calls Trym.prog 8 #[.slice (some ⟨b, off, none⟩) zs.length cap] w fun e w' => e = .returned (.slice (some ⟨w.heap.size, 0, none⟩) zs.length zs.length) ∧
      w'.rowIs w.heap.size 5 zs.length (cpF zs zs.length) ∧ Below w.heap.size w w' := by
  have HZ : Hid (∀ k, k < zs.length → w.cell? ⟨b, off + k, none⟩ = some (.int .u8 (zs[k]?.getD 0))) := hz
  clear hz
  have q22 : ∀ (w : World) (a : Option Addr) (n c n' c' : Nat), (binOp .eql 22 (.slice a n c) (.slice none n' c')).run Trym.prog w = .ok (.bool a.isNone) w := fun w a n c n' c' => Lib.run_eql_slice_nil w _ _ a n c n' c' Trym.underlying22
  obtain ⟨i0, hi, hz0, hz1, hz2⟩ := info_parts Trym.infoB
  go_enter Trym.func8, Trym.ntmps8
  go_wp2_with (at_make; refine wpList_make_row _ rfl _ _ 22 rfl 5 i0 (.int .u8 0) Trym.underlying22 hi hz0 hz1 rfl .i64 .i64 zs.length rfl rfl (by rw [hz2]; omega) (by omega) ?_)
  clear hi hz0 hz1 hz2 q22
  go_loopg [4] zs.length (fun k i wr => ∃ j : Nat, j ≤ zs.length ∧ i = .int .i64 (j : Int) ∧ zs.length - j ≤ k ∧ wr.rowIs w.heap.size 5 zs.length (cpF zs j) ∧ Below w.heap.size w wr)
  case atStart => exact ⟨0, Nat.zero_le _, rfl, by omega, (World.rowIs_made w _ _ _).congr (fun k _ => by simp [cpF]), (Below.refl _ _).alloc (Nat.le_refl _) _⟩
  case round =>
    obtain ⟨j, hj, rfl, hk, hrow, hB⟩ := hrel
    have HR : Hid (wr.rowIs w.heap.size 5 zs.length (cpF zs j)) := hrow
    have HB : Hid (Below w.heap.size w wr) := hB
    by_cases hlt : j < zs.length
    · have hc : wr.cell? ⟨b, off + j, none⟩ = some (.int .u8 (zs[j]?.getD 0)) := (hB.cell (p := ⟨b, off + j, none⟩) hb).trans (HZ.out j hlt)
      have hc2 := hrow.cell hlt
      have hf := hrow.frozen j
      clear hrow hB
      generalize hcc : zs[j]?.getD 0 = c at hc
      have HC : Hid (zs[j]?.getD 0 = c) := hcc
      clear hcc
      go_wp2_with fail
      go_roundg (gk - 1)
      case measure => omega
      case rel => exact ⟨j + 1, by omega, by go_num, by omega, by rw [← HC.out]; exact cp_step HR.out, HB.out.setCell (p := ⟨w.heap.size, j, none⟩) (Nat.le_refl _) _⟩
    · obtain rfl : j = zs.length := by omega
      clear hrow hB
      go_wp2_with fail
      go_ret
      exact ⟨rfl, HR.out, HB.out⟩

set_option maxHeartbeats 1000000 in
theorem bytes2_yes (a : Option Addr) (n c : Nat) (i : Int) (w : World) (h : (n : Int) ≤ 1048576) :
    Calls Trym.prog 7 #[.slice a n c, .int .i64 i] w fun e w' => e = .returned (.bool true) ∧ w' = w := by
  go_enter Trym.func7, Trym.ntmps7
  go_wp2
  go_ret
  exact ⟨rfl, rfl⟩
set_option maxHeartbeats 1000000 in
theorem bytes2_no (a : Option Addr) (n c : Nat) (i : Int) (w : World) (h : (1048576 : Int) < (n : Int)) :
    Calls Trym.prog 7 #[.slice a n c, .int .i64 i] w fun e w' => e = .returned (.bool false) ∧ w' = w := by
  go_enter Trym.func7, Trym.ntmps7
  go_wp2
  go_ret
  exact ⟨rfl, rfl⟩
end Go.Proofs.Qxb6001061aMods
