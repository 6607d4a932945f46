import Derived.Test.Qxb6001486aModsRead
import Derived.LaidEqlPtr
namespace Go.Proofs.Qxb6001486aMods
open Go.ChangeShapes Go.WideShapes Go.ChangeAt Go.RowKit

theorem Trym.info30 : (Trym.prog.info? 30).map (fun i => (i.zero, i.size, i.bytes)) = some (some (.slice none 0 0), 1, 24) := by kernel_rfl

/-- In a world that holds a chain of n places in block g: what is read at depth e + 1. -/
structure ChW (w : World) (g n : Nat) : Prop where
  dep : ∀ e, e < n → w.cell? ⟨g, e * 5 + 2, none⟩ = some (.int .i64 ((e : Int) + 1))
  par : ∀ e, e < n → w.cell? ⟨g, e * 5, none⟩ = some (ptrOf g e)
  jmp : ∀ e, e < n → w.cell? ⟨g, e * 5 + 4, none⟩ = some (ptrOf g (J (e + 1)))
theorem ChW.of {w : World} {g n : Nat} {f : Nat → Value} (h : w.rowIs g 32 (n * 5) f) (hf : ChF f g n) : ChW w g n :=
  ⟨fun e he => by rw [h.cell (by omega), hf.dep e he], fun e he => by rw [h.cell (by omega), hf.par e he], fun e he => by rw [h.cell (by omega), hf.jmp e he]⟩

theorem ptrOf_pos {g n : Nat} (h : 1 ≤ n) : ptrOf g n = .pointer (some ⟨g, (n - 1) * 5, none⟩) := by
  obtain ⟨e, rfl⟩ : ∃ e, n = e + 1 := ⟨n - 1, by omega⟩
  rfl

set_option maxHeartbeats 2000000 in
theorem up_in (n t : Nat) (w : World) (hn1 : 1 ≤ n) (hn : (n : Int) ≤ 65536) (ht : t ≤ n) :
    Calls Trym.prog 4 #[.int .i64 (n : Int), .int .i64 (t : Int)] w fun e w' => e = .returned (.bool true) ∧ Below w.heap.size w w' := by
  obtain ⟨i0, hi, hz0, hz1, hz2⟩ := info_parts Trym.info30
  have hbl := bits_le n
  have ht' : (t : Int) ≤ (n : Int) := by omega
  have hn1' : (1 : Int) ≤ (n : Int) := by omega
  go_enter Trym.func4, Trym.ntmps4
  go_wp2_with (at_make; refine wpList_make_row _ rfl _ _ 22 rfl 30 i0 (.slice none 0 0) Trym.underlying22 hi hz0 hz1 rfl .i64 .i64 n rfl rfl (by rw [hz2]; omega) (by omega) ?_)
  have hmade := World.rowIs_made w (.slice none 0 0) n 30
  have hch := chain8 w.heap.size 0 n n (w.alloc (.cells (madeCells #[.slice none 0 0] n) 30)) (fun _ => none) (fun _ => 0) (fun _ => 0) hn (by simp) (fun k hk => by rw [Nat.zero_add]; exact hmade.cell hk) (fun k _ => by simp)
  refine Calls.mono hch ?_
  rintro e w1 ⟨rfl, ⟨f, hrow, hf⟩, hB1⟩
  have HW : Hid (ChW w1 (w.alloc (.cells (madeCells #[.slice none 0 0] n) 30)).heap.size n) := ChW.of hrow hf
  have HB : Hid (Below w.heap.size w w1) := ((Below.refl _ _).alloc (Nat.le_refl _) _).trans (hB1.mono (by simp))
  clear hi hz0 hz1 hz2 hmade hch hrow hf hB1
  generalize (w.alloc (.cells (madeCells #[.slice none 0 0] n) 30)).heap.size = g at HW ⊢
  go_wp2_with fail
  refine (bitlen11 n _ (by omega)).mono ?_
  rintro e w' ⟨rfl, h2⟩; rw [h2]; clear h2 w'
  have HL : Hid (within t (6 * (bits n + 1)) n) := within_log ht
  generalize bits n = B at HL hbl ⊢
  go_wp2_with fail
  go_loop [7, 8] (fun p s => ∃ (c k m : Nat), p = ptrOf g c ∧ s = .int .i64 (k : Int) ∧ t ≤ c ∧ c ≤ n ∧ k + m = 6 * (B + 1) ∧ within t m c) (fun _ s => 6 * (B + 1) - (intOf s).toNat)
  case atStart => exact ⟨n, 0, 6 * (B + 1), (ptrOf_pos hn1).symm, rfl, ht, Nat.le_refl _, by omega, HL.out⟩
  case round =>
    clear HL
    obtain ⟨c, k, m, rfl, rfl, htc, hcn, hkm, hwi⟩ := hrel
    have HI : Hid (within t m c) := hwi
    have HK : Hid (k + m = 6 * (B + 1)) := hkm
    have hk1 : (k : Int) ≤ 6 * ((B : Int) + 1) := by omega
    clear hwi hkm
    cases c with
    | zero =>
      obtain rfl : t = 0 := by omega
      clear HW HI HK
      rw [show ptrOf g 0 = .pointer none from rfl]
      go_wp2_with fail
      go_ret
      exact ⟨rfl, HB.out⟩
    | succ e =>
      have c2 := HW.out.dep e hcn
      have hcn' : ((e + 1 : Nat) : Int) ≤ (n : Int) := by omega
      rw [show ptrOf g (e + 1) = .pointer (some ⟨g, e * 5, none⟩) from rfl]
      by_cases het : e + 1 = t
      · subst het
        clear HI HK
        obtain ⟨j0, hj0, _⟩ := info_parts Trym.info32
        have hEq : ∀ w, (binOp .eql 29 (.pointer (some ⟨g, e * 5, none⟩)) (.pointer (some ⟨g, e * 5, none⟩))).run Trym.prog w = .ok (.bool true) w := fun w => run_eql_ptr_same w _ Trym.underlying29 hj0
        go_wp2_with fail
        refine (depth12 g (e * 5) _ _ c2).mono ?_
        rintro en w' ⟨rfl, h2⟩; rw [h2]; clear h2 w'
        go_wp2_with fail
        go_ret
        exact ⟨by simp, HB.out⟩
      · have hne : ((e : Int) + 1 == (t : Int)) = false := by rw [beq_eq_false_iff_ne]; omega
        have hne2 : ((e : Int) + 1 != (t : Int)) = true := by simp only [bne, hne]; rfl
        obtain ⟨m', rfl⟩ : ∃ m', m = m' + 1 := by
          cases m with
          | zero => exact absurd HI.out het
          | succ m' => exact ⟨m', rfl⟩
        have HI2 : Hid (within t m' (next t (e + 1))) := by
          rcases HI.out with h | h
          · exact absurd h het
          · exact h
        have HK2 : Hid (k + 1 + m' = 6 * (B + 1)) := by have := HK.out; show _ = _; omega
        have hk2 : (k : Int) < 6 * ((B : Int) + 1) := by have := HK.out; omega
        have c4 := HW.out.jmp e hcn
        have c0 := HW.out.par e hcn
        have hJl := J_lt (d := e + 1) (by omega)
        obtain ⟨p0, hp0⟩ := ptrOf_pointer g e
        rw [hp0] at c0
        have HP0 : Hid (ptrOf g e = .pointer p0) := hp0
        clear HI HK hp0
        cases hJ : J (e + 1) with
        | zero =>
          rw [hJ] at c4
          rw [show ptrOf g 0 = .pointer none from rfl] at c4
          by_cases ht0 : t = 0
          · have htz : (t : Int) ≤ 0 := by omega
            have HX : Hid (next t (e + 1) = 0) := by rw [next_jump (by omega)]; exact hJ
            clear hJ hJl c0 HP0 ht0
            go_wp2_with fail
            refine (depth12 g (e * 5) _ _ c2).mono ?_
            rintro en w' ⟨rfl, h2⟩; rw [h2]; clear h2 w'
            go_wp2_with fail
            refine (jump10 g (e * 5) _ _ c4).mono ?_
            rintro en w' ⟨rfl, h2⟩; rw [h2]; clear h2 w'
            go_wp2_with fail
            go_round
            case rel => exact ⟨0, k + 1, m', rfl, by go_num, by omega, by omega, HK2.out, by have := HI2.out; rw [HX.out] at this; exact this⟩
            case measure => simp [intOf]; omega
          · have htp : (0 : Int) < (t : Int) := by omega
            have HX : Hid (next t (e + 1) = e) := by rw [next_up (by omega)]; rfl
            clear hJ hJl ht0
            go_wp2_with fail
            refine (depth12 g (e * 5) _ _ c2).mono ?_
            rintro en w' ⟨rfl, h2⟩; rw [h2]; clear h2 w'
            go_wp2_with fail
            refine (jump10 g (e * 5) _ _ c4).mono ?_
            rintro en w' ⟨rfl, h2⟩; rw [h2]; clear h2 w'
            go_wp2_with fail
            refine (parent13 g (e * 5) _ _ c0).mono ?_
            rintro en w' ⟨rfl, h2⟩; rw [h2]; clear h2 w'
            go_wp2_with fail
            go_round
            case rel => exact ⟨e, k + 1, m', HP0.out.symm, by go_num, by omega, by omega, HK2.out, by have := HI2.out; rw [HX.out] at this; exact this⟩
            case measure => simp [intOf]; omega
        | succ q =>
          rw [hJ] at c4 hJl
          rw [show ptrOf g (q + 1) = .pointer (some ⟨g, q * 5, none⟩) from rfl] at c4
          have c2q := HW.out.dep q (by omega)
          by_cases htq : t ≤ q + 1
          · have htq' : (t : Int) ≤ (q : Int) + 1 := by omega
            have HX : Hid (next t (e + 1) = q + 1) := by rw [next_jump (by rw [hJ]; exact htq)]; exact hJ
            clear hJ c0 HP0 htq
            go_wp2_with fail
            refine (depth12 g (e * 5) _ _ c2).mono ?_
            rintro en w' ⟨rfl, h2⟩; rw [h2]; clear h2 w'
            go_wp2_with fail
            refine (jump10 g (e * 5) _ _ c4).mono ?_
            rintro en w' ⟨rfl, h2⟩; rw [h2]; clear h2 w'
            go_wp2_with fail
            refine (depth12 g (q * 5) _ _ c2q).mono ?_
            rintro en w' ⟨rfl, h2⟩; rw [h2]; clear h2 w'
            go_wp2_with fail
            go_round
            case rel => exact ⟨q + 1, k + 1, m', rfl, by go_num, by omega, by omega, HK2.out, by have := HI2.out; rw [HX.out] at this; exact this⟩
            case measure => simp [intOf]; omega
          · have htq' : (q : Int) + 1 < (t : Int) := by omega
            have HX : Hid (next t (e + 1) = e) := by rw [next_up (by rw [hJ]; exact htq)]; rfl
            clear hJ htq
            go_wp2_with fail
            refine (depth12 g (e * 5) _ _ c2).mono ?_
            rintro en w' ⟨rfl, h2⟩; rw [h2]; clear h2 w'
            go_wp2_with fail
            refine (jump10 g (e * 5) _ _ c4).mono ?_
            rintro en w' ⟨rfl, h2⟩; rw [h2]; clear h2 w'
            go_wp2_with fail
            refine (depth12 g (q * 5) _ _ c2q).mono ?_
            rintro en w' ⟨rfl, h2⟩; rw [h2]; clear h2 w'
            go_wp2_with fail
            refine (parent13 g (e * 5) _ _ c0).mono ?_
            rintro en w' ⟨rfl, h2⟩; rw [h2]; clear h2 w'
            go_wp2_with fail
            go_round
            case rel => exact ⟨e, k + 1, m', HP0.out.symm, by go_num, by omega, by omega, HK2.out, by have := HI2.out; rw [HX.out] at this; exact this⟩
            case measure => simp [intOf]; omega

end Go.Proofs.Qxb6001486aMods
