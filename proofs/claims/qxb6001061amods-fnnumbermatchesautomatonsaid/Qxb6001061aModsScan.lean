import Derived.Test.Qxb6001061aModsNumber
namespace Go.Proofs.Qxb6001061aMods
open Go.ChangeShapes Go.WideShapes Go.ChangeAt Go.RowKit

theorem scn_new (w : World) (b off cap : Nat) (zs : List Int) (i : Nat) (hz : ∀ k, k < zs.length → w.cell? ⟨b, off + k, none⟩ = some (.int .u8 (zs[k]?.getD 0))) (hb : b < w.heap.size) :
    Scn (w.alloc (.cells #[.slice (some ⟨b, off, none⟩) zs.length cap, .int .i64 (i : Int), .int .i64 0] 33)) w.heap.size b off cap zs i := by
  refine ⟨?_, ?_, ?_, ?_, hb⟩
  · rw [World.cell?_alloc_at _ _ _ _ rfl]; rfl
  · rw [World.cell?_alloc_at _ _ _ _ rfl]; rfl
  · simp [go_sem]
  · intro k hk
    rw [World.cell?_alloc_past _ _ _ hb]; exact hz k hk

set_option maxHeartbeats 1000000 in
theorem scan_any (w : World) (b off cap : Nat) (zs : List Int) (i : Nat) (hz : ∀ k, k < zs.length → w.cell? ⟨b, off + k, none⟩ = some (.int .u8 (zs[k]?.getD 0)))
    (hb : b < w.heap.size) (hi : i < zs.length) (hl : (zs.length : Int) ≤ 4194304) :
    Calls Trym.prog 9 #[.slice (some ⟨b, off, none⟩) zs.length cap, .int .i64 (i : Int)] w fun e w' => e = .returned (.tuple #[.int .i64 ((numF zs i).1 : Int), .bool (numF zs i).2]) ∧ Below w.heap.size w w' := by
  have HS : Hid (Scn (w.alloc (.cells #[.slice (some ⟨b, off, none⟩) zs.length cap, .int .i64 (i : Int), .int .i64 0] 33)) w.heap.size b off cap zs i) := scn_new w b off cap zs i hz hb
  clear hz
  go_enter Trym.func9, Trym.ntmps9
  go_wp2_with fail
  refine (number_any _ w.heap.size b off cap zs i HS.out hi hl).mono ?_
  rintro e w' ⟨rfl, hS, hB⟩
  have hB1 : Below w.heap.size w w' := ((Below.refl _ w).alloc (Nat.le_refl _) _).trans hB
  have h1 := hS.i
  have HB : Hid (Below w.heap.size w w') := hB1
  clear HS hB hB1 hS
  go_wp2_with fail
  go_ret2
  exact ⟨rfl, HB.out⟩
end Go.Proofs.Qxb6001061aMods
