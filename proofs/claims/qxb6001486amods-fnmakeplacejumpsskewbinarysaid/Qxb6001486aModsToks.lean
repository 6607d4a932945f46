import Derived.Test.Qxb6001486aModsWalkUp
import Derived.Laws.CopyOwn
import Derived.WalkSpells
namespace Go.Proofs.Qxb6001486aMods
open Go.ChangeShapes Go.WideShapes Go.ChangeAt Go.RowKit

theorem Trym.info5 : (Trym.prog.info? 5).map (fun i => (i.zero, i.size, i.bytes)) = some (some (.int .u8 0), 1, 1) := by kernel_rfl
theorem Trym.size5 : (Trym.prog.info? 5).map (·.size) = some 1 := by kernel_rfl

/-- What is known of one token that came in: it is nil, or its bytes are there. -/
def TokOk (w : World) (a : Option Addr) (l : Nat) : Prop :=
  (a = none ∧ l = 0) ∨ ∃ (ad : Addr) (Z : Nat → Int), a = some ad ∧ ∀ c, c < l → w.cell? (ad.add c) = some (.int .u8 (Z c))

/-- A clone's end: a slice of the same length; what was there is as it was. -/
def Cloned (w : World) (l : Nat) (e : Ending) (w' : World) : Prop := ∃ (a' : Option Addr) (c' : Nat), e = .returned (.slice a' l c') ∧ Below w.heap.size w w'

theorem copy_cells {w : World} {ad : Addr} {l : Nat} {Z : Nat → Int} (o : Obj) (hZ : ∀ c, c < l → w.cell? (ad.add c) = some (.int .u8 (Z c))) :
    ∀ j v, ((List.range l).map fun c => Value.int .u8 (Z c))[j]? = some v → (w.alloc o).cell? (ad.add j) = some v := by
  intro j v hj
  have hlt : j < l := by
    have := (List.getElem?_eq_some_iff.1 hj).1
    simpa using this
  rw [List.getElem?_map, List.getElem?_range hlt] at hj
  have hc := hZ j hlt
  have hb := block_lt_of_cell hc
  rw [World.cell?_alloc_lt _ _ _ hb, hc]
  simpa using hj

set_option maxHeartbeats 1000000 in
theorem clone14 (w : World) (a : Option Addr) (l c : Nat) (h : TokOk w a l) (hc : a = none → c = 0) (hl : (l : Int) ≤ 1048576) :
    Calls Trym.prog 14 #[.slice a l c] w fun e w' => Cloned w l e w' := by
  have q30 : ∀ (w : World) (a : Option Addr) (n c n' c' : Nat), (binOp .eql 30 (.slice a n c) (.slice none n' c')).run Trym.prog w = .ok (.bool a.isNone) w := fun w a n c n' c' => Lib.run_eql_slice_nil w _ _ a n c n' c' Trym.underlying30
  rcases h with ⟨rfl, rfl⟩ | ⟨ad, Z, rfl, hZ⟩
  · go_enter Trym.func14, Trym.ntmps14
    go_wp2
    go_ret
    exact ⟨none, 0, rfl, Below.refl _ _⟩
  · obtain ⟨i0, hi, hz0, hz1, hz2⟩ := info_parts Trym.info5
    have HZ : Hid (∀ c, c < l → w.cell? (ad.add c) = some (.int .u8 (Z c))) := hZ
    have HB : Hid (Below w.heap.size w (w.alloc (.cells (madeCells #[.int .u8 0] l) 5))) := (Below.refl _ _).alloc (Nat.le_refl _) _
    have HG : Hid ((w.alloc (.cells (madeCells #[.int .u8 0] l) 5)).heap[w.heap.size]? = some (.cells (madeCells #[.int .u8 0] l).toList.toArray 5 (0, 0))) := by
      show _ = _
      rw [Array.toArray_toList]; exact Go.Deep.blk_alloc_new _ _
    clear hZ hc
    go_enter Trym.func14, Trym.ntmps14
    go_wp2_with (first | (at_make; refine wpList_make_row _ rfl _ _ 30 rfl 5 i0 (.int .u8 0) Trym.underlying30 hi hz0 hz1 rfl .i64 .i64 l rfl rfl (by rw [hz2]; omega) (by omega) ?_) | (refine wpList_copy_splice rfl (.tmp 9) (.tmp 10) 30 30 rfl 5 Trym.underlying30 Trym.size5 _ _ _ _ _ _ rfl rfl w.heap.size 0 (madeCells #[.int .u8 0] l).toList 5 HG.out ((List.range l).map fun c => Value.int .u8 (Z c)) (by simp) (fun _ => ⟨rfl, ad, rfl, copy_cells _ HZ.out⟩) (by simp [size_madeCells]) (by intro v hv; obtain ⟨_, _, rfl⟩ := List.mem_map.1 hv; rfl) w.heap.size w HB.out (Nat.le_refl _) ?_; intro w2 hg2 hb2))
    go_ret
    exact ⟨_, _, rfl, hb2⟩
theorem TokOk.below {w w' : World} {a : Option Addr} {l : Nat} (h : TokOk w a l) (hB : Below w.heap.size w w') : TokOk w' a l := by
  rcases h with h | ⟨ad, Z, rfl, hZ⟩
  · exact .inl h
  · refine .inr ⟨ad, Z, rfl, fun c hc => ?_⟩
    rw [hB.cell (block_lt_of_cell (hZ c hc)), hZ c hc]

/-- The slice's address and capacity in a value. -/
def slA : Value → Option Addr
  | .slice a _ _ => a
  | _ => none
def slC : Value → Nat
  | .slice _ _ c => c
  | _ => 0

set_option maxHeartbeats 1000000 in
theorem clone7 (tb tf n tc : Nat) (w : World) (A : Nat → Option Addr) (L C : Nat → Nat) (hn : (n : Int) ≤ 65536) (htb : tb < w.heap.size)
    (hT : ∀ k, k < n → w.cell? ⟨tb, tf + k, none⟩ = some (.slice (A k) (L k) (C k))) (hO : ∀ k, k < n → TokOk w (A k) (L k)) (hN : ∀ k, k < n → A k = none → C k = 0) (hL : ∀ k, k < n → (L k : Int) ≤ 1048576) :
    Calls Trym.prog 7 #[.slice (some ⟨tb, tf, none⟩) n tc] w fun e w' => e = .returned (.slice (some ⟨w.heap.size, 0, none⟩) n n) ∧
      (∃ (A' : Nat → Option Addr) (C' : Nat → Nat), ∀ k, k < n → w'.cell? ⟨w.heap.size, 0 + k, none⟩ = some (.slice (A' k) (L k) (C' k))) ∧ w.heap.size < w'.heap.size ∧ Below w.heap.size w w' := by
  have HT : Hid ((∀ k, k < n → w.cell? ⟨tb, tf + k, none⟩ = some (.slice (A k) (L k) (C k))) ∧ (∀ k, k < n → TokOk w (A k) (L k)) ∧ (∀ k, k < n → A k = none → C k = 0) ∧ (∀ k, k < n → (L k : Int) ≤ 1048576)) := ⟨hT, hO, hN, hL⟩
  clear hT hO hN hL
  have q22 : ∀ (w : World) (a : Option Addr) (n c n' c' : Nat), (binOp .eql 22 (.slice a n c) (.slice none n' c')).run Trym.prog w = .ok (.bool a.isNone) w := fun w a n c n' c' => Lib.run_eql_slice_nil w _ _ a n c n' c' Trym.underlying22
  obtain ⟨i0, hi, hz0, hz1, hz2⟩ := info_parts Trym.info30
  go_enter Trym.func7, Trym.ntmps7
  go_wp2_with (at_make; refine wpList_make_row _ rfl _ _ 22 rfl 30 i0 (.slice none 0 0) Trym.underlying22 hi hz0 hz1 rfl .i64 .i64 n rfl rfl (by rw [hz2]; omega) (by omega) ?_)
  clear hi hz0 hz1 hz2 q22
  go_loopg [4] n (fun k i wr => ∃ (j : Nat) (f : Nat → Value), j ≤ n ∧ i = .int .i64 (j : Int) ∧ n - j ≤ k ∧ wr.rowIs w.heap.size 30 n f ∧ (∀ k, k < j → ∃ a c, f k = .slice a (L k) c) ∧ Below w.heap.size w wr)
  case atStart => exact ⟨0, _, Nat.zero_le _, rfl, by omega, World.rowIs_made w _ _ _, fun k hk => absurd hk (by omega), (Below.refl _ _).alloc (Nat.le_refl _) _⟩
  case round =>
    obtain ⟨j, f, hj, rfl, hk, hrow, hF, hB⟩ := hrel
    have HF : Hid (∀ k, k < j → ∃ a c, f k = .slice a (L k) c) := hF
    clear hF
    by_cases hlt : j < n
    · obtain ⟨t1, t2, t3, t4⟩ := HT.out
      have hc : wr.cell? ⟨tb, tf + j, none⟩ = some (.slice (A j) (L j) (C j)) := (hB.cell (p := ⟨tb, tf + j, none⟩) htb).trans (t1 j hlt)
      have HC : Hid (Calls Trym.prog 14 #[.slice (A j) (L j) (C j)] wr fun e w' => Cloned wr (L j) e w') := clone14 wr (A j) (L j) (C j) ((t2 j hlt).below hB) (t3 j hlt) (t4 j hlt)
      have hlg := hrow.lt
      have HR : Hid (wr.rowIs w.heap.size 30 n f) := hrow
      have HB : Hid (Below w.heap.size w wr) := hB
      clear t1 t2 t3 t4 hrow hB
      go_wp2_with fail
      refine Calls.mono HC.out ?_
      rintro e w2 ⟨a', c', rfl, hB2⟩
      have hrow2 := HR.out.of_block (hB2.block w.heap.size hlg)
      have d1 := hrow2.cell hlt
      have d2 := hrow2.frozen j
      have HR2 : Hid (w2.rowIs w.heap.size 30 n f) := hrow2
      have HB2 : Hid (Below w.heap.size w w2) := HB.out.trans (hB2.mono HB.out.size)
      clear hrow2 hB2 HC HR
      go_wp2_with fail
      go_roundg (gk - 1)
      case measure => omega
      case rel =>
        refine ⟨j + 1, _, by omega, by go_num, by omega, HR2.out.set j _, ?_, HB2.out.setCell (p := ⟨w.heap.size, j, none⟩) (Nat.le_refl _) _⟩
        intro k hk
        by_cases e : k = j
        · subst e; exact ⟨a', c', by simp⟩
        · obtain ⟨a2, c2, h2⟩ := HF.out k (by omega)
          exact ⟨a2, c2, by simp [e, h2]⟩
    · obtain rfl : j = n := by omega
      have hlg := hrow.lt
      have HR : Hid (∃ (A' : Nat → Option Addr) (C' : Nat → Nat), ∀ k, k < j → wr.cell? ⟨w.heap.size, 0 + k, none⟩ = some (.slice (A' k) (L k) (C' k))) := by
        refine ⟨fun k => slA (f k), fun k => slC (f k), fun k hk => ?_⟩
        obtain ⟨a2, c2, h2⟩ := HF.out k hk
        rw [Nat.zero_add, hrow.cell hk]
        show some (f k) = some (.slice (slA (f k)) (L k) (slC (f k)))
        rw [h2]; rfl
      have HB : Hid (Below w.heap.size w wr) := hB
      clear hrow hB
      go_wp2_with fail
      go_ret
      exact ⟨rfl, HR.out, hlg, HB.out⟩
end Go.Proofs.Qxb6001486aMods
