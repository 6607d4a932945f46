import Derived.Test.Qxb6001486aModsRows
import Derived.Test.Qxb6001486aModsSkewWalk
import Derived.WalkKit
import Derived.ProofKit
import Derived.OpenShut
import Derived.ShutString
import Derived.ChangeOld
import Derived.Below
import Derived.Deep.Matrix
namespace Go.Proofs.Qxb6001486aMods.fnMakePlaceJumpsSkewBinary
open Go.ChangeShapes Go.WideShapes Go.ChangeAt Go.RowKit
open Go.Deep (open_int_rows)
set_option linter.unusedVariables false

theorem own : ownKnob Trym.prog.godebug = none := by kernel_rfl
theorem laidOut : laidOutB Trym.prog = true := by kernel_rfl

/-- What the walk is told of the slice of tokens that came in. -/
def IsRows (w : World) (a : Option Addr) (n : Nat) : Prop :=
  n ≤ maxLen ∧ (n = 0 ∨ ∃ (tb tf : Nat) (A : Nat → Option Addr) (L C : Nat → Nat), a = some ⟨tb, tf, none⟩ ∧ tb < w.heap.size ∧ (∀ k, k < n → w.cell? ⟨tb, tf + k, none⟩ = some (.slice (A k) (L k) (C k))) ∧
    (∀ k, k < n → TokOk w (A k) (L k)) ∧ (∀ k, k < n → A k = none → C k = 0) ∧ ∀ k, k < n → L k ≤ maxLen)

set_option maxHeartbeats 1000000 in
theorem walk (a0 : Option Addr) (len0 cap0 : Nat) (w : World) (w0 : IsRows w a0 len0) :
    Calls Trym.prog 3 #[.slice a0 len0 cap0] w fun e w' => e = .returned (.bool true) ∧ Below w.heap.size w w' := by
  obtain ⟨hmax, w0⟩ := w0
  unfold maxLen at hmax
  by_cases h0 : len0 = 0
  · subst h0
    go_enter Trym.func3, Trym.ntmps3
    go_wp2_with fail
    refine (bytes5_0 _ _ _).mono ?_
    rintro e w' ⟨rfl, h2⟩; rw [h2]; clear h2 w'
    go_wp2_with fail
    refine (tokens6_0 _ _ _).mono ?_
    rintro e w' ⟨rfl, h2⟩; rw [h2]; clear h2 w'
    go_wp2_with fail
    go_ret
    exact ⟨rfl, Below.refl _ _⟩
  · rcases w0 with h | ⟨tb, tf, A, L, C, rfl, htb, hT, hO, hN, hM⟩
    · exact absurd h h0
    · by_cases h1 : (len0 : Int) ≤ 65536
      · exact skew_in tb tf len0 cap0 w A L C (by omega) h1 htb hT hO hN hM
      · by_cases h2 : (len0 : Int) ≤ 1048576
        · have hgt : (65536 : Int) < (len0 : Int) := by omega
          have HB : Hid (Calls Trym.prog 5 #[.slice (some ⟨tb, tf, none⟩) len0 cap0] w fun e w' => BytesOut len0 L w e w') := bytes5 tb tf len0 cap0 w A L C h2 hT hM
          clear hT hO hN hM h1 h0
          go_enter Trym.func3, Trym.ntmps3
          go_wp2_with fail
          refine Calls.mono HB.out ?_
          rintro e w' ⟨b, rfl, _, h2⟩; rw [h2]; clear h2 w'
          cases b
          · go_wp2_with fail
            go_ret
            exact ⟨rfl, Below.refl _ _⟩
          · go_wp2_with fail
            go_ret
            exact ⟨rfl, Below.refl _ _⟩
        · have hgt : (1048576 : Int) < (len0 : Int) := by omega
          clear hT hO hN hM h1 h2 h0
          go_enter Trym.func3, Trym.ntmps3
          go_wp2_with fail
          refine (bytes5_big _ _ _ _ hgt).mono ?_
          rintro e w' ⟨rfl, h2⟩; rw [h2]; clear h2 w'
          go_wp2_with fail
          go_ret
          exact ⟨rfl, Below.refl _ _⟩

/-! ### THE ROW's STEP -/
set_option maxRecDepth 100000 in
theorem lifted (os : Os) (started : os.Started) (H : Type) (enc : TypeId × Value → H) :
    ReturnsInHanded {} Trym.checked os 3 .any (Rows.fnMakePlaceJumpsSkewBinarySpec.pre6 enc Trym.prog Trym.f3 Rows.fnMakePlaceJumpsSkewBinaryRow.domain false) (Rows.fnMakePlaceJumpsSkewBinarySpec.post enc Trym.prog Trym.f3 false true false false) := by
  refine returnsInHanded_of_change (C := Trym.checked) own started (by kernel_rfl) Trym.func3
    (ChangeSpec.witness6 (enc := enc) (C := Trym.checked) false ⟨#[], #[.slice none 0 0], []⟩ 8 (by kernel_rfl) (by kernel_rfl) (by kernel_rfl) (by kernel_rfl)) ?_
  intro W base args ds gs before hval0 hW hcnd _
  have hval : ∀ (j : Nat) t v, Trym.f3.params[j]? = some t → args[j]? = some v → Value.okWide Trym.prog W .any base t v := hval0
  have hW' := hW
  obtain ⟨p, q, hA0, hV, rfl, hfz, hnd⟩ := hW
  have hA : DataW.TrodAll enc Trym.prog W 0 (fun _ => true) true Trym.f3.params.toList args.toList ds p := hA0
  rw [Trym.params3] at hA hval
  obtain ⟨v0, vs0, d0, ds0, p0, q0, hargs, rfl, rfl, h0, r0⟩ := trodAll_cons hA
  obtain ⟨rfl, rfl, rfl⟩ := trodAll_nil r0
  obtain rfl : args = #[v0] := by cases args; simp_all
  obtain ⟨rfl, rfl⟩ := trodVars_none hV
  obtain ⟨a0, len0, cap0, rfl⟩ := okWide_slice Trym.underlying22 (hval 0 22 v0 rfl rfl)
  have k0 := h0
  have lt0 : ∀ x ∈ p0, x.block < W.heap.size := by obtain ⟨m, hm⟩ := k0; exact DataW.trod_lt m _ _ _ hm
  have w0 : IsRows W a0 len0 := by
    obtain ⟨fuel, hf⟩ := h0
    rcases open_int_rows Trym.underlying22 Trym.underlying30 Trym.underlying5 (by kernel_rfl) (by kernel_rfl) hf with ⟨hcs, _⟩ | ⟨x, l, c, A, L, C, Z, hcs, _, hl, hm, _, hcell⟩
    · simp [Value.cells] at hcs
      obtain ⟨rfl, rfl, rfl⟩ := hcs
      exact ⟨by decide, .inl rfl⟩
    · simp [Value.cells] at hcs
      obtain ⟨rfl, rfl, rfl⟩ := hcs
      refine ⟨Nat.le_trans hl hm, ?_⟩
      by_cases hz : len0 = 0
      · exact .inl hz
      · obtain ⟨tb, tf, spot⟩ := x
        have hspot : spot = none := by simpa [Addr.add] using World.cell?_spot (hcell 0 (by omega)).1
        subst hspot
        refine .inr ⟨tb, tf, A, L, C, rfl, ?_, ?_, ?_, ?_, ?_⟩
        · exact block_lt_of_cell (hcell 0 (by omega)).1
        · intro k hk; have h := (hcell k (by omega)).1; rw [Addr.add_lit] at h; exact h
        · intro k hk
          obtain ⟨_, hLC, _, _, _, hnone, hsome⟩ := hcell k (by omega)
          cases hAk : A k with
          | none => exact .inl ⟨rfl, by have := hnone hAk; omega⟩
          | some ad => exact .inr ⟨ad, fun c => (Z k).getD c 0, rfl, fun c hc => (hsome ad hAk).2 c (by omega)⟩
        · intro k hk; exact (hcell k (by omega)).2.2.2.2.2.1
        · intro k hk; obtain ⟨_, hLC, hC, _⟩ := hcell k (by omega); omega
  clear hA0 hval0
  refine (walk a0 len0 cap0 W w0).mono fun e W' ⟨he, bel⟩ => ?_
  subst he
  exact ⟨_, rfl, _, _, _, [], _, [], hW', trodAll_mk1 (shut_bool Trym.underlying4 _), (trodAll_cons_mk (Below.trod laidOut (by kernel_rfl) (of_decide_eq_true (by kernel_rfl)) k0 bel lt0) trodAll_mk0), rfl, bel.frame _, fun h => by cases h⟩

theorem over : Rows.fnMakePlaceJumpsSkewBinaryRow.holds Trym.pinned (OpenSpec.ofChange Rows.fnMakePlaceJumpsSkewBinarySpec) :=
  OpenClaim.holds_of_wide 3 Trym.f3 rfl rfl rfl rfl rfl rfl rfl ⟨rfl, rfl, rfl, rfl, rfl⟩ rfl rfl rfl rfl rfl (by kernel_rfl) Trym.func3 (by kernel_rfl)
    (of_decide_eq_true (by kernel_rfl)) (by unfold Func.isWrapper; first | (rw [if_pos (by decide +kernel)]; kernel_rfl) | (rw [if_neg (by decide +kernel)]; exact ⟨rfl, rfl⟩))
    (fun os started H enc _ => lifted os started H enc)

/-- THE STATEMENT -/
theorem proved : Rows.FnMakePlaceJumpsSkewBinarySaid := over
end Go.Proofs.Qxb6001486aMods.fnMakePlaceJumpsSkewBinary
