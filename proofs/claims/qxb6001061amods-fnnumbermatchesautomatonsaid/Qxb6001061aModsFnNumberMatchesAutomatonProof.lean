import Derived.Test.Qxb6001061aModsRows
import Derived.Test.Qxb6001061aModsScan
import Derived.Test.Qxb6001061aModsCopy
import Derived.Test.Qxb6001061aModsModel
import Derived.WalkKit
import Derived.ProofKit
import Derived.OpenShut
import Derived.ShutString
import Derived.ChangeOld
import Derived.Below
namespace Go.Proofs.Qxb6001061aMods.fnNumberMatchesAutomaton
open Go.ChangeShapes Go.WideShapes Go.ChangeAt Go.RowKit
open Go.ChangeMaps (open_string shut_string)
set_option linter.unusedVariables false

theorem own : ownKnob Trym.prog.godebug = none := by kernel_rfl
theorem laidOut : laidOutB Trym.prog = true := by kernel_rfl

/-- WHAT THE WALK IS TOLD OF A SLICE OF INTEGERS THAT CAME IN: it is nil; or it leads to a row of 'cap' cells, the numbers 'zs' (the first 'len' are its elements, the rest its spare room), each fitting its kind. -/
def IsRow (k : IntKind) (w : World) (a : Option Addr) (len cap : Nat) (zs : List Int) : Prop :=
  (a = none ∧ len = 0 ∧ cap = 0 ∧ zs = []) ∨
  ∃ x, a = some x ∧ len ≤ cap ∧ cap ≤ maxLen ∧ zs.length = cap ∧ (∀ i, i < zs.length → w.cell? (x.add i) = some (.int k (zs.getD i 0))) ∧ ∀ n ∈ zs, (Lit.int k n).wf = true

/-! ### THE WALK -/

set_option maxHeartbeats 2000000 in
theorem walk_in (b off cap : Nat) (zs : List Int) (i : Nat) (w : World) (hz : ∀ k, k < zs.length → w.cell? ⟨b, off + k, none⟩ = some (.int .u8 (zs[k]?.getD 0)))
    (hb : b < w.heap.size) (hl : (zs.length : Int) ≤ 1048576) (hi : i < zs.length) :
    Calls Trym.prog 3 #[.slice (some ⟨b, off, none⟩) zs.length cap, .int .i64 (i : Int)] w fun e w' => e = .returned (.bool true) ∧ Below w.heap.size w w' := by
  have HZ : Hid (∀ k, k < zs.length → w.cell? ⟨b, off + k, none⟩ = some (.int .u8 (zs[k]?.getD 0))) := hz
  have HN : Hid (numF zs i = mF zs 0 i) := numF_eq hi
  have hi' : (i : Int) < (zs.length : Int) := by omega
  clear hz
  go_enter Trym.func3, Trym.ntmps3
  go_wp2_with fail
  refine (bytes2_yes _ _ _ _ _ hl).mono ?_
  rintro e w' ⟨rfl, h2⟩; rw [h2]; clear h2 w'
  go_wp2_with fail
  refine (copy_any w b off cap zs HZ.out hb (by omega)).mono ?_
  rintro e w1 ⟨rfl, hrow, hB1⟩
  have hB : w.heap.size < w1.heap.size := hrow.lt
  have hz1 : ∀ k, k < zs.length → w1.cell? ⟨w.heap.size, 0 + k, none⟩ = some (.int .u8 (zs[k]?.getD 0)) := by
    intro k hk
    rw [Nat.zero_add, hrow.cell hk]
    simp [cpF, hk]
  have HZ1 : Hid (∀ k, k < zs.length → w1.cell? ⟨w.heap.size, 0 + k, none⟩ = some (.int .u8 (zs[k]?.getD 0))) := hz1
  have HB1 : Hid (Below w.heap.size w w1) := hB1
  clear hrow hB1 hz1 HZ
  go_wp2_with fail
  refine (scan_any w1 w.heap.size 0 zs.length zs i HZ1.out hB hi (by omega)).mono ?_
  rintro e w2 ⟨rfl, hB2⟩
  have HZ2 : Hid (∀ k, k < zs.length → w2.cell? ⟨w.heap.size, 0 + k, none⟩ = some (.int .u8 (zs[k]?.getD 0))) :=
    fun k hk => (hB2.cell (p := ⟨w.heap.size, 0 + k, none⟩) hB).trans (HZ1.out k hk)
  have HB2 : Hid (Below w.heap.size w w2) := HB1.out.trans (hB2.mono HB1.out.size)
  clear hB2 HZ1 HB1
  go_wp2_with fail
  refine (model_any w2 w.heap.size 0 zs.length zs i HZ2.out hi (by omega)).mono ?_
  rintro e w3 ⟨rfl, h2⟩; rw [h2]; clear h2 w3
  rw [← HN.out]
  clear HN HZ2
  generalize (numF zs i).1 = N
  generalize (numF zs i).2 = B
  go_wp2_with fail
  go_ret
  exact ⟨by simp, HB2.out⟩

set_option maxHeartbeats 1000000 in
theorem walk (a0 : Option Addr) (len0 cap0 : Nat) (z0 : List Int) (a1 : Int) (w : World) (w0 : IsRow .u8 w a0 len0 cap0 z0) (w1 : (Lit.int .i64 a1).wf = true) :
    Calls Trym.prog 3 #[.slice a0 len0 cap0, .int .i64 a1] w fun e w' => e = .returned (.bool true) ∧ Below w.heap.size w w' := by
  have b1 := bounds_i64 w1
  have hmax : (len0 : Int) ≤ 9223372036854775807 := by
    rcases w0 with ⟨_, h, _⟩ | ⟨x, _, h1, h2, _⟩
    · omega
    · unfold maxLen at h2; omega
  by_cases h1 : (len0 : Int) ≤ 1048576
  · by_cases h2 : a1 < 0
    · clear w0
      go_enter Trym.func3, Trym.ntmps3
      go_wp2_with fail
      refine (bytes2_yes _ _ _ _ _ h1).mono ?_
      rintro e w' ⟨rfl, h2⟩; rw [h2]; clear h2 w'
      go_wp2_with fail
      go_ret
      exact ⟨rfl, Below.refl _ _⟩
    · by_cases h3 : (len0 : Int) ≤ a1
      · clear w0
        go_enter Trym.func3, Trym.ntmps3
        go_wp2_with fail
        refine (bytes2_yes _ _ _ _ _ h1).mono ?_
        rintro e w' ⟨rfl, h2⟩; rw [h2]; clear h2 w'
        go_wp2_with fail
        go_ret
        exact ⟨rfl, Below.refl _ _⟩
      · rcases w0 with ⟨_, h, _⟩ | ⟨x, rfl, hlc, hcm, hzl, hcell, hwf⟩
        · omega
        · obtain ⟨i, rfl⟩ : ∃ i : Nat, a1 = (i : Int) := ⟨a1.toNat, by omega⟩
          obtain ⟨b, off, rfl, hc⟩ := ints_at hcell (by omega)
          have hlen : (z0.take len0).length = len0 := by rw [List.length_take]; omega
          have hz : ∀ k, k < (z0.take len0).length → w.cell? ⟨b, off + k, none⟩ = some (.int .u8 ((z0.take len0)[k]?.getD 0)) := by
            intro k hk
            rw [hlen] at hk
            rw [hc k (by omega), List.getElem?_take, if_pos hk, List.getD_eq_getElem?_getD]
          have := walk_in b off cap0 (z0.take len0) i w hz (block_lt_of_cell (hz 0 (by omega))) (by omega) (by omega)
          rw [hlen] at this
          exact this
  · have h1' : (1048576 : Int) < (len0 : Int) := by omega
    clear w0 h1
    go_enter Trym.func3, Trym.ntmps3
    go_wp2_with fail
    refine (bytes2_no _ _ _ _ _ h1').mono ?_
    rintro e w' ⟨rfl, h2⟩; rw [h2]; clear h2 w'
    go_wp2_with fail
    go_ret
    exact ⟨rfl, Below.refl _ _⟩

/-! ### THE ROW's STEP: WRITTEN OUT: LEAVE IT -/
set_option maxRecDepth 100000 in
theorem lifted (os : Os) (started : os.Started) (H : Type) (enc : TypeId × Value → H) :
    ReturnsInHanded {} Trym.checked os 3 .any (Rows.fnNumberMatchesAutomatonSpec.pre6 enc Trym.prog Trym.f3 Rows.fnNumberMatchesAutomatonRow.domain false) (Rows.fnNumberMatchesAutomatonSpec.post enc Trym.prog Trym.f3 false true false false) := by
  refine returnsInHanded_of_change (C := Trym.checked) own started (by kernel_rfl) Trym.func3
    (ChangeSpec.witness6 (enc := enc) (C := Trym.checked) false ⟨#[], #[.slice none 0 0, .int .i64 0], []⟩ 8 (by kernel_rfl) (by kernel_rfl) (by kernel_rfl) (by kernel_rfl)) ?_
  intro W base args ds gs before hval0 hW hcnd _
  have hval : ∀ (j : Nat) t v, Trym.f3.params[j]? = some t → args[j]? = some v → Value.okWide Trym.prog W .any base t v := hval0
  have hW' := hW
  obtain ⟨p, q, hA0, hV, rfl, hfz, hnd⟩ := hW
  have hA : DataW.TrodAll enc Trym.prog W 0 (fun _ => true) true Trym.f3.params.toList args.toList ds p := hA0
  rw [Trym.params3] at hA hval
  obtain ⟨v0, vs0, d0, ds0, p0, q0, hargs, rfl, rfl, h0, r0⟩ := trodAll_cons hA
  obtain ⟨v1, vs1, d1, ds1, p1, q1, rfl, rfl, rfl, h1, r1⟩ := trodAll_cons r0
  obtain ⟨rfl, rfl, rfl⟩ := trodAll_nil r1
  obtain rfl : args = #[v0, v1] := by cases args; simp_all
  obtain ⟨rfl, rfl⟩ := trodVars_none hV
  obtain ⟨a0, len0, cap0, rfl⟩ := okWide_slice Trym.underlying22 (hval 0 22 v0 rfl rfl)
  have k0 := h0
  have lt0 : ∀ x ∈ p0, x.block < W.heap.size := by obtain ⟨m, hm⟩ := k0; exact DataW.trod_lt m _ _ _ hm
  obtain ⟨z0, w0⟩ : ∃ zs, IsRow .u8 W a0 len0 cap0 zs := by
    obtain ⟨fuel, hf⟩ := h0
    rcases open_ints Trym.underlying22 Trym.underlying5 (by kernel_rfl) hf with ⟨hcs, _⟩ | ⟨x, l, c, zs, hcs, _, hl, hm, hz, _, hcell, hwz⟩
    · simp [Value.cells] at hcs
      obtain ⟨rfl, rfl, rfl⟩ := hcs
      exact ⟨[], .inl ⟨rfl, rfl, rfl, rfl⟩⟩
    · simp [Value.cells] at hcs
      obtain ⟨rfl, rfl, rfl⟩ := hcs
      exact ⟨zs, .inr ⟨_, rfl, hl, hm, by simpa using hz, hcell, hwz⟩⟩
  obtain ⟨a1, rfl, rfl, rfl, w1⟩ := open_int Trym.underlying3 (hval 1 3 v1 rfl rfl) h1
  clear hA0 hval0
  refine (walk a0 len0 cap0 z0 a1 W w0 w1).mono fun e W' ⟨he, bel⟩ => ?_
  subst he
  exact ⟨_, rfl, _, _, _, [], _, [], hW', trodAll_mk1 (shut_bool Trym.underlying4 _), (trodAll_cons_mk (Below.trod laidOut (by kernel_rfl) (of_decide_eq_true (by kernel_rfl)) k0 bel lt0) (trodAll_cons_mk (shut_int Trym.underlying3 w1) trodAll_mk0)), rfl, bel.frame _, fun h => by cases h⟩

theorem over : Rows.fnNumberMatchesAutomatonRow.holds Trym.pinned (OpenSpec.ofChange Rows.fnNumberMatchesAutomatonSpec) :=
  OpenClaim.holds_of_wide 3 Trym.f3 rfl rfl rfl rfl rfl rfl rfl ⟨rfl, rfl, rfl, rfl, rfl⟩ rfl rfl rfl rfl rfl (by kernel_rfl) Trym.func3 (by kernel_rfl)
    (of_decide_eq_true (by kernel_rfl)) (by unfold Func.isWrapper; first | (rw [if_pos (by decide +kernel)]; kernel_rfl) | (rw [if_neg (by decide +kernel)]; exact ⟨rfl, rfl⟩))
    (fun os started H enc _ => lifted os started H enc)

/-- ████ THE STATEMENT ████ -/
theorem proved : Rows.FnNumberMatchesAutomatonSaid := over
end Go.Proofs.Qxb6001061aMods.fnNumberMatchesAutomaton
