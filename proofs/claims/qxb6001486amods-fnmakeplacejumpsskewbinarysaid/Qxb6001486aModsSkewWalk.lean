import Derived.Test.Qxb6001486aModsBytes
namespace Go.Proofs.Qxb6001486aMods
open Go.ChangeShapes Go.WideShapes Go.ChangeAt Go.RowKit

set_option maxHeartbeats 1000000 in
theorem jd9 (w : World) (g n e : Nat) (h : ChW w g n) (he : e < n) :
    Calls Trym.prog 9 #[.pointer (some ⟨g, e * 5, none⟩)] w fun en w' => en = .returned (.int .i64 (J (e + 1) : Int)) ∧ w' = w := by
  have c4 := h.jmp e he
  have hlt := J_lt (d := e + 1) (by omega)
  cases hJ : J (e + 1) with
  | zero =>
    rw [hJ] at c4
    rw [show ptrOf g 0 = .pointer none from rfl] at c4
    clear hJ
    go_enter Trym.func9, Trym.ntmps9
    go_wp2_with fail
    refine (jump10 g (e * 5) _ _ c4).mono ?_
    rintro en w' ⟨rfl, h2⟩; rw [h2]; clear h2 w'
    go_wp2_with fail
    go_ret
    exact ⟨rfl, rfl⟩
  | succ q =>
    rw [hJ] at c4 hlt
    rw [show ptrOf g (q + 1) = .pointer (some ⟨g, q * 5, none⟩) from rfl] at c4
    have c2 := h.dep q (by omega)
    clear hJ
    go_enter Trym.func9, Trym.ntmps9
    go_wp2_with fail
    refine (jump10 g (e * 5) _ _ c4).mono ?_
    rintro en w' ⟨rfl, h2⟩; rw [h2]; clear h2 w'
    go_wp2_with fail
    refine (depth12 g (q * 5) _ _ c2).mono ?_
    rintro en w' ⟨rfl, h2⟩; rw [h2]; clear h2 w'
    go_wp2_with fail
    go_ret
    exact ⟨rfl, rfl⟩

theorem run_neq_ptr_same (w : World) (a : Addr) : (binOp .neq 29 (.pointer (some a)) (.pointer (some a))).run Trym.prog w = .ok (.bool false) w := by
  obtain ⟨j0, hj0, _⟩ := info_parts Trym.info32
  have h : ∀ d : Nat, (Op.equalIn (d + 1) 29 (.pointer (some a)) (.pointer (some a))).run Trym.prog w = .ok true w := fun d => by
    simp [Op.equalIn, run_underlying Trym.underlying29, sizeOf, typeInfo, hj0, run_sameAddr_same]
  simp only [binOp]
  simp [Op.equal, Op.maxDepth, h 9999]

theorem span_and {s : Nat} (h : ∃ k, 1 ≤ k ∧ s = 2 ^ k - 1) (hs : (s : Int) ≤ 131072) : Go.bits .and .i64 ((s : Int) + 1) (s : Int) = 0 := by
  obtain ⟨k, hk, rfl⟩ := h
  have h2 := two_pos k
  have hk2 : k < 62 := by
    apply Nat.lt_of_not_le; intro hle
    have := Nat.pow_le_pow_right (n := 2) (by decide) hle
    omega
  have e : ((2 ^ k - 1 : Nat) : Int) + 1 = (2 : Int) ^ k := by
    rw [Int.natCast_sub h2]; simp
  have e2 : ((2 ^ k - 1 : Nat) : Int) = (2 : Int) ^ k - 1 := by omega
  rw [e, e2]
  have hb : ∀ n : Int, 0 ≤ n → n < 2 ^ 62 → IntKind.i64.wrap n = n := by
    intro n h0 h1; rw [IntKind.wrap_i64]; omega
  have hp : (0 : Int) ≤ 2 ^ k := by omega
  have := bits_mask .i64 62 (by decide) hb k (by omega) ((2 : Int) ^ k) hp (by omega)
  rw [this]; exact Int.emod_self

theorem ChW.drewN {w : World} {g n : Nat} (h : ChW w g n) (m : Nat) : ChW (w.drewN m) g n :=
  ⟨fun e he => by simpa using h.dep e he, fun e he => by simpa using h.par e he, fun e he => by simpa using h.jmp e he⟩

/-- Chains outlive what is made behind them. -/
theorem ChW.below {w w' : World} {g n B : Nat} (h : ChW w g n) (hg : g < B) (hB : Below B w w') : ChW w' g n :=
  ⟨fun e he => (hB.cell (p := ⟨g, e * 5 + 2, none⟩) hg).trans (h.dep e he), fun e he => (hB.cell (p := ⟨g, e * 5, none⟩) hg).trans (h.par e he), fun e he => (hB.cell (p := ⟨g, e * 5 + 4, none⟩) hg).trans (h.jmp e he)⟩

set_option maxHeartbeats 4000000 in
theorem skew_in (tb tf n tc : Nat) (w : World) (A : Nat → Option Addr) (L C : Nat → Nat) (hn1 : 1 ≤ n) (hn : (n : Int) ≤ 65536) (htb : tb < w.heap.size)
    (hT : ∀ k, k < n → w.cell? ⟨tb, tf + k, none⟩ = some (.slice (A k) (L k) (C k))) (hO : ∀ k, k < n → TokOk w (A k) (L k)) (hN : ∀ k, k < n → A k = none → C k = 0) (hM : ∀ k, k < n → L k ≤ maxLen) :
    Calls Trym.prog 3 #[.slice (some ⟨tb, tf, none⟩) n tc] w fun e w' => e = .returned (.bool true) ∧ Below w.heap.size w w' := by
  have HT : Hid (∀ k, k < n → w.cell? ⟨tb, tf + k, none⟩ = some (.slice (A k) (L k) (C k))) := hT
  have HO : Hid (∀ k, k < n → TokOk w (A k) (L k)) := hO
  have HN : Hid (∀ k, k < n → A k = none → C k = 0) := hN
  have HM : Hid (∀ k, k < n → L k ≤ maxLen) := hM
  clear hT hO hN hM
  have hn1' : (1 : Int) ≤ (n : Int) := by omega
  have hnz : ((n : Int) == 0) = false := by rw [beq_eq_false_iff_ne]; omega
  obtain ⟨i0, hi, hz0, hz1, hz2⟩ := info_parts Trym.info30
  go_enter Trym.func3, Trym.ntmps3
  go_wp2_with fail
  refine (bytes5 tb tf n tc w A L C (by omega) HT.out HM.out).mono ?_
  rintro e w' ⟨b, rfl, hb, h2⟩; rw [h2]; clear h2 w'
  cases b
  · clear hb
    go_wp2_with fail
    go_ret
    exact ⟨rfl, Below.refl _ _⟩
  have HL : Hid (∀ k, k < n → (L k : Int) ≤ 1048576) := hb rfl
  clear hb
  go_wp2_with fail
  refine (tokens6 tb tf n tc w A L C hn HT.out HL.out).mono ?_
  rintro e w' ⟨x, rfl, h2⟩; rw [h2]; clear h2 w'
  by_cases hx : 1048576 < x
  · go_wp2_with fail
    go_ret
    exact ⟨rfl, Below.refl _ _⟩
  go_wp2_with fail
  refine (clone7 tb tf n tc w A L C hn htb HT.out HO.out HN.out HL.out).mono ?_
  rintro e w1 ⟨rfl, ⟨A', C', hT1⟩, hs1, hB1⟩
  have HT1 : Hid (∀ k, k < n → w1.cell? ⟨w.heap.size, 0 + k, none⟩ = some (.slice (A' k) (L k) (C' k))) := hT1
  have HB1 : Hid (Below w.heap.size w w1) := hB1
  clear hT1 hB1
  go_wp2_with fail
  refine (chain8 w.heap.size 0 n n w1 A' L C' hn hs1 HT1.out HL.out).mono ?_
  rintro e w2 ⟨rfl, ⟨f2, hrow2, hf2⟩, hB2⟩
  have hg1 : w1.heap.size < w2.heap.size := hrow2.lt
  have HW1 : Hid (ChW w2 w1.heap.size n) := ChW.of hrow2 hf2
  have HB2 : Hid (Below w.heap.size w w2) := HB1.out.trans (hB2.mono HB1.out.size)
  clear hrow2 hf2 hB2 HT1 HB1 HT HO HN HM HL
  generalize w1.heap.size = g1 at HW1 hg1 ⊢
  go_wp2_with (at_make; refine wpList_make_row _ rfl _ _ 22 rfl 30 i0 (.slice none 0 0) Trym.underlying22 hi hz0 hz1 rfl .i64 .i64 n rfl rfl (by rw [hz2]; omega) (by omega) ?_)
  clear hi hz0 hz1 hz2
  have hmade := World.rowIs_made w2 (.slice none 0 0) n 30
  refine (chain8 w2.heap.size 0 n n (w2.alloc (.cells (madeCells #[.slice none 0 0] n) 30)) (fun _ => none) (fun _ => 0) (fun _ => 0) hn (by simp) (fun k hk => by rw [Nat.zero_add]; exact hmade.cell hk) (fun k _ => by simp)).mono ?_
  rintro e w3 ⟨rfl, ⟨f3, hrow3, hf3⟩, hB3⟩
  have HB23 : Hid (Below w2.heap.size w2 w3) := ((Below.refl _ _).alloc (Nat.le_refl _) _).trans (hB3.mono (by simp))
  have HB3 : Hid (Below w.heap.size w w3) := HB2.out.trans (HB23.out.mono HB2.out.size)
  have HC1 : Hid (ChW w3 g1 n) := HW1.out.below hg1 HB23.out
  have HC2 : Hid (ChW w3 (w2.alloc (.cells (madeCells #[.slice none 0 0] n) 30)).heap.size n) := ChW.of hrow3 hf3
  clear hmade hrow3 hf3 hB3 HB23 HB2 HW1
  generalize (w2.alloc (.cells (madeCells #[.slice none 0 0] n) 30)).heap.size = g2 at HC2 ⊢
  go_wp2_with fail
  go_loopg [6] n (fun k i wr => ∃ j : Nat, j ≤ n ∧ i = .int .i64 (j : Int) ∧ n - j ≤ k ∧ ChW wr g1 n ∧ ChW wr g2 n ∧ Below w.heap.size w wr)
  case atStart => exact ⟨0, Nat.zero_le _, rfl, by omega, HC1.out, HC2.out, HB3.out⟩
  case round =>
    clear HC1 HC2 HB3
    obtain ⟨j, hj, rfl, hk, hC1, hC2, hBr⟩ := hrel
    have HC1m : Hid (ChW wr g1 n) := hC1
    have HC2m : Hid (ChW wr g2 n) := hC2
    have HBr : Hid (Below w.heap.size w wr) := hBr
    clear hC1 hC2 hBr
    by_cases hlt : j < n
    · have hJl := J_lt (d := j + 1) (by omega)
      have hc4 := HC1m.out.jmp j hlt
      have HS : Hid (∃ k, 1 ≤ k ∧ j + 1 - J (j + 1) = 2 ^ k - 1) := J_span (by omega)
      have HC4 : Hid (wr.cell? ⟨g1, j * 5 + 4, none⟩ = some (ptrOf g1 (J (j + 1)))) := hc4
      clear hc4
      go_wp2_with fail
      refine (jd9 wr g1 n j HC1m.out hlt).mono ?_
      rintro en w' ⟨rfl, h2⟩; rw [h2]; clear h2 w'
      go_wp2_with fail
      refine (jd9 wr g2 n j HC2m.out hlt).mono ?_
      rintro en w' ⟨rfl, h2⟩; rw [h2]; clear h2 w'
      cases hJ : J (j + 1) with
      | zero =>
        have hand : (Go.bits .and .i64 ((j : Int) + 1 + 1) ((j : Int) + 1) != 0) = false := by
          have h := span_and (s := j + 1) (by have := HS.out; rw [hJ] at this; exact this) (by omega)
          rw [show ((j + 1 : Nat) : Int) = (j : Int) + 1 from by omega] at h
          rw [h]; rfl
        clear hJ hJl HC4 HS
        go_upto_region 21 with fail
        go_quiet (fail)
        go_wp2_with fail
        go_roundg (gk - 1)
        case measure => omega
        case rel => exact ⟨j + 1, by omega, by go_num, by omega, HC1m.out.drewN _, HC2m.out.drewN _, below_drewN HBr.out _⟩
      | succ q =>
        have c4 := HC4.out
        rw [hJ] at c4 hJl
        rw [show ptrOf g1 (q + 1) = .pointer (some ⟨g1, q * 5, none⟩) from rfl] at c4
        have hne : ∀ w, (binOp .neq 29 (.pointer (some ⟨g1, q * 5, none⟩)) (.pointer (some ⟨g1, q * 5, none⟩))).run Trym.prog w = .ok (.bool false) w := fun w => run_neq_ptr_same w _
        have hqj : (q : Int) + 1 ≤ (j : Int) := by omega
        have hand : (Go.bits .and .i64 ((j : Int) + 1 - ((q : Int) + 1) + 1) ((j : Int) + 1 - ((q : Int) + 1)) != 0) = false := by
          have h := span_and (s := j + 1 - (q + 1)) (by have := HS.out; rw [hJ] at this; exact this) (by omega)
          rw [show ((j + 1 - (q + 1) : Nat) : Int) = (j : Int) + 1 - ((q : Int) + 1) from by omega] at h
          rw [h]; rfl
        clear hJ hJl HC4 HS
        go_upto_region 21 with fail
        go_quiet ((go_at_call 10; exact Calls.quiet_of_same (jump10 g1 (j * 5) (some ⟨g1, q * 5, none⟩) _ (by simpa using c4))))
        go_wp2_with fail
        go_roundg (gk - 1)
        case measure => omega
        case rel => exact ⟨j + 1, by omega, by go_num, by omega, HC1m.out.drewN _, HC2m.out.drewN _, below_drewN HBr.out _⟩
    · go_wp2_with fail
      go_ret
      exact ⟨rfl, HBr.out⟩
end Go.Proofs.Qxb6001486aMods
