import Derived.Test.Qxb6001486aModsPlace
import Derived.Deep.OwnRows
namespace Go.Proofs.Qxb6001486aMods
open Go.ChangeShapes Go.WideShapes Go.ChangeAt Go.RowKit

/-- The pointer to the place at depth d of the chain in block g (nil at depth 0). -/
def ptrOf (g : Nat) : Nat → Value
  | 0 => .pointer none
  | e + 1 => .pointer (some ⟨g, e * 5, none⟩)

/-- The row's content f holds a chain of j places. -/
structure ChF (f : Nat → Value) (g j : Nat) : Prop where
  par : ∀ e, e < j → f (e * 5) = ptrOf g e
  dep : ∀ e, e < j → f (e * 5 + 2) = .int .i64 ((e : Int) + 1)
  fin : ∀ e, e < j → ∃ x : Int, 0 ≤ x ∧ x ≤ ((e : Int) + 1) * 1048577 ∧ f (e * 5 + 3) = .int .i64 x
  jmp : ∀ e, e < j → f (e * 5 + 4) = ptrOf g (J (e + 1))

theorem place16 (w : World) (g n j d : Nat) (f : Nat → Value) (hrow : w.rowIs g 32 (n * 5) f) (hf : ChF f g j) (hjn : j ≤ n) (hn : (n : Int) ≤ 65536) (hd : d ≤ j)
    (ta : Option Addr) (tl tc : Nat) (htl : (tl : Int) ≤ 1048576) :
    Calls Trym.prog 16 #[ptrOf g d, .slice ta tl tc] w fun e w' => ∃ x : Int, (0 ≤ x ∧ x ≤ ((d : Int) + 1) * 1048577) ∧
      e = .returned (.agg #[ptrOf g d, .slice ta tl tc, .int .i64 ((d : Int) + 1), .int .i64 x, ptrOf g (J (d + 1))]) ∧ Below w.heap.size w w' := by
  cases d with
  | zero =>
    refine (make_nil ta tl tc w htl).mono ?_
    rintro e w' ⟨rfl, hB⟩
    exact ⟨1 + (tl : Int), by omega, rfl, hB⟩
  | succ e =>
    have he : e < j := hd
    have hg := hrow.lt
    have h2 : w.cell? ⟨g, e * 5 + 2, none⟩ = some (.int .i64 ((e : Int) + 1)) := by rw [hrow.cell (by omega), hf.dep e he]
    obtain ⟨x, hx1, hx2, hx3⟩ := hf.fin e he
    have h3 : w.cell? ⟨g, e * 5 + 3, none⟩ = some (.int .i64 x) := by rw [hrow.cell (by omega), hx3]
    have h4 : w.cell? ⟨g, e * 5 + 4, none⟩ = some (ptrOf g (J (e + 1))) := by rw [hrow.cell (by omega), hf.jmp e he]
    have hlt := J_lt (d := e + 1) (by omega)
    have hcast : ((e + 1 : Nat) : Int) = (e : Int) + 1 := by omega
    rw [hcast]
    have fin : ∀ (v : Value) (en : Ending) (w' : World), (en = .returned (.agg #[.pointer (some ⟨g, e * 5, none⟩), .slice ta tl tc, .int .i64 ((e : Int) + 1 + 1), .int .i64 (x + 1 + (tl : Int)), v]) ∧ Below w.heap.size w w') → v = ptrOf g (J (e + 1 + 1)) →
        ∃ x' : Int, (0 ≤ x' ∧ x' ≤ ((e : Int) + 1 + 1) * 1048577) ∧ en = .returned (.agg #[ptrOf g (e + 1), .slice ta tl tc, .int .i64 ((e : Int) + 1 + 1), .int .i64 x', ptrOf g (J (e + 1 + 1))]) ∧ Below w.heap.size w w' := by
      rintro v en w' ⟨rfl, hB⟩ rfl
      exact ⟨x + 1 + (tl : Int), by omega, rfl, hB⟩
    have up : (J (e + 1) = 0 ∨ ¬ e + 1 - J (e + 1) = J (e + 1) - J (J (e + 1))) → Value.pointer (some ⟨g, e * 5, none⟩) = ptrOf g (J (e + 1 + 1)) := by
      intro h; rw [J_else (d := e + 1) h]; rfl
    cases hJ : J (e + 1) with
    | zero =>
      rw [hJ] at h4
      refine (make_p0 g (e * 5) ((e : Int) + 1) x ta tl tc w htl hg h2 h3 (by omega) (by omega) hx1 (by omega) h4).mono ?_
      intro en w' h
      exact fin _ en w' h (up (.inl hJ))
    | succ q =>
      rw [hJ] at h4 hlt
      have hq : q < j := by omega
      have hj2 : w.cell? ⟨g, q * 5 + 2, none⟩ = some (.int .i64 ((q : Int) + 1)) := by rw [hrow.cell (by omega), hf.dep q hq]
      have hj4 : w.cell? ⟨g, q * 5 + 4, none⟩ = some (ptrOf g (J (q + 1))) := by rw [hrow.cell (by omega), hf.jmp q hq]
      have hlt2 := J_lt (d := q + 1) (by omega)
      have both : (e + 1 - (q + 1) = q + 1 - J (q + 1)) → ptrOf g (J (q + 1)) = ptrOf g (J (e + 1 + 1)) := by
        intro h
        rw [J_both (d := e + 1) (by rw [hJ]; omega) (by rw [hJ]; exact h), hJ]
      cases hJ2 : J (q + 1) with
      | zero =>
        rw [hJ2] at hj4 both
        by_cases hc : e + 1 - (q + 1) = q + 1 - 0
        · refine (make_p1_eq g (e * 5) ((e : Int) + 1) x ta tl tc w htl hg h2 h3 (by omega) (by omega) hx1 (by omega) (q * 5) ((q : Int) + 1) h4 hj2 (by omega) (by omega) hj4 (by rw [beq_iff_eq]; omega)).mono ?_
          intro en w' h
          exact fin _ en w' h (both hc)
        · refine (make_p1_ne g (e * 5) ((e : Int) + 1) x ta tl tc w htl hg h2 h3 (by omega) (by omega) hx1 (by omega) (q * 5) ((q : Int) + 1) h4 hj2 (by omega) (by omega) hj4 (by rw [beq_eq_false_iff_ne]; omega)).mono ?_
          intro en w' h
          exact fin _ en w' h (up (.inr (by rw [hJ, hJ2]; exact hc)))
      | succ l =>
        rw [hJ2] at hj4 both hlt2
        have hl2 : w.cell? ⟨g, l * 5 + 2, none⟩ = some (.int .i64 ((l : Int) + 1)) := by rw [hrow.cell (by omega), hf.dep l (by omega)]
        by_cases hc : e + 1 - (q + 1) = q + 1 - (l + 1)
        · refine (make_p2_eq g (e * 5) ((e : Int) + 1) x ta tl tc w htl hg h2 h3 (by omega) (by omega) hx1 (by omega) (q * 5) ((q : Int) + 1) h4 hj2 (by omega) (by omega) (l * 5) ((l : Int) + 1) hj4 hl2 (by omega) (by omega) (by rw [beq_iff_eq]; omega)).mono ?_
          intro en w' h
          exact fin _ en w' h (both hc)
        · refine (make_p2_ne g (e * 5) ((e : Int) + 1) x ta tl tc w htl hg h2 h3 (by omega) (by omega) hx1 (by omega) (q * 5) ((q : Int) + 1) h4 hj2 (by omega) (by omega) (l * 5) ((l : Int) + 1) hj4 hl2 (by omega) (by omega) (by rw [beq_eq_false_iff_ne]; omega)).mono ?_
          intro en w' h
          exact fin _ en w' h (up (.inr (by rw [hJ, hJ2]; exact hc)))

theorem bcell {W w1 : World} (hb : Below W.heap.size W w1) : (∀ b o, b < W.heap.size → w1.cell? ⟨b, o, none⟩ = W.cell? ⟨b, o, none⟩) ∧ (∀ b o, b < W.heap.size → w1.frozen? ⟨b, o, none⟩ = W.frozen? ⟨b, o, none⟩) :=
  ⟨fun b o h => hb.cell (p := ⟨b, o, none⟩) h, fun b o h => hb.frozen (p := ⟨b, o, none⟩) h⟩

theorem ptrOf_pointer (g d : Nat) : ∃ p, ptrOf g d = .pointer p := by
  cases d with
  | zero => exact ⟨_, rfl⟩
  | succ d => exact ⟨_, rfl⟩

set_option maxHeartbeats 1000000 in
theorem place15 (w : World) (g n j d : Nat) (f : Nat → Value) (hrow : w.rowIs g 32 (n * 5) f) (hf : ChF f g j) (hjn : j ≤ n) (hn : (n : Int) ≤ 65536) (hd : d ≤ j)
    (ta : Option Addr) (tl tc : Nat) (htl : (tl : Int) ≤ 1048576) :
    Calls Trym.prog 15 #[ptrOf g d, .slice ta tl tc] w fun e w' => ∃ x : Int, (0 ≤ x ∧ x ≤ ((d : Int) + 1) * 1048577) ∧
      e = .returned (.agg #[ptrOf g d, .slice ta tl tc, .int .i64 ((d : Int) + 1), .int .i64 x, ptrOf g (J (d + 1))]) ∧ Below w.heap.size w w' := by
  have HC := fun o => place16 (w.alloc o) g n j d f (hrow.alloc o) hf hjn hn hd ta tl tc htl
  obtain ⟨p, hp⟩ := ptrOf_pointer g d
  obtain ⟨p2, hp2⟩ := ptrOf_pointer g (J (d + 1))
  rw [hp, hp2]
  rw [hp, hp2] at HC
  generalize ((d : Int) + 1) = D at HC ⊢
  have H := show Hid _ from HC
  clear hrow hf hp hp2 HC
  go_enter Trym.func15, Trym.ntmps15
  go_wp2_with fail
  refine Calls.mono (H.out _) ?_
  rintro e w' ⟨x, hx, rfl, hB⟩
  obtain ⟨hc, hfz⟩ := bcell hB
  have hz : w.heap.size + 1 ≤ w'.heap.size := by have := hB.size; simp at this; omega
  have HB : Hid (Below w.heap.size w w') := ((Below.refl _ _).alloc (Nat.le_refl _) _).trans (hB.mono (by simp))
  have HX : Hid (0 ≤ x ∧ x ≤ D * 1048577) := hx
  have c0 := hc w.heap.size 0 (by simp)
  have c1 := hc w.heap.size 1 (by simp)
  have c2 := hc w.heap.size 2 (by simp)
  have c3 := hc w.heap.size 3 (by simp)
  have c4 := hc w.heap.size 4 (by simp)
  have f0 := hfz w.heap.size 0 (by simp)
  have f1 := hfz w.heap.size 1 (by simp)
  have f2 := hfz w.heap.size 2 (by simp)
  have f3 := hfz w.heap.size 3 (by simp)
  have f4 := hfz w.heap.size 4 (by simp)
  clear hc hfz hB hx H
  simp [go_sem] at c0 c1 c2 c3 c4 f0 f1 f2 f3 f4
  go_wp2_with fail
  exact bodyPost_ret (v := .agg #[.pointer p, .slice ta tl tc, .int .i64 D, .int .i64 x, .pointer p2]) (by simp [results, Trym.results15, go_sem, c0, c1, c2, c3, c4]) rfl
    ⟨x, HX.out, rfl, ((((HB.out.setCell (p := ⟨w.heap.size, 0, none⟩) (Nat.le_refl _) _).setCell (p := ⟨w.heap.size, 1, none⟩) (Nat.le_refl _) _).setCell (p := ⟨w.heap.size, 2, none⟩) (Nat.le_refl _) _).setCell (p := ⟨w.heap.size, 3, none⟩) (Nat.le_refl _) _).setCell (p := ⟨w.heap.size, 4, none⟩) (Nat.le_refl _) _⟩

/-! ### THE CHAIN IS BUILT -/

/-- Five cells written behind one another. -/
def put5 (f : Nat → Value) (o : Nat) (v0 v1 v2 v3 v4 : Value) : Nat → Value := fun c =>
  if c = o + 4 then v4 else if c = o + 3 then v3 else if c = o + 2 then v2 else if c = o + 1 then v1 else if c = o then v0 else f c

theorem row_put5 {w : World} {g m : Nat} {f : Nat → Value} (h : w.rowIs g 32 m f) (o : Nat) (v0 v1 v2 v3 v4 : Value) :
    (((((w.setCell ⟨g, o, none⟩ v0).setCell ⟨g, o + 1, none⟩ v1).setCell ⟨g, o + 2, none⟩ v2).setCell ⟨g, o + 3, none⟩ v3).setCell ⟨g, o + 4, none⟩ v4).rowIs g 32 m (put5 f o v0 v1 v2 v3 v4) :=
  ((((h.set o v0).set (o + 1) v1).set (o + 2) v2).set (o + 3) v3).set (o + 4) v4

theorem ch_step {f : Nat → Value} {g j : Nat} (h : ChF f g j) (tok : Value) (x : Int) (hx : 0 ≤ x ∧ x ≤ ((j : Int) + 1) * 1048577) :
    ChF (put5 f (j * 5) (ptrOf g j) tok (.int .i64 ((j : Int) + 1)) (.int .i64 x) (ptrOf g (J (j + 1)))) g (j + 1) := by
  have old : ∀ e k, e < j → k < 5 → put5 f (j * 5) (ptrOf g j) tok (.int .i64 ((j : Int) + 1)) (.int .i64 x) (ptrOf g (J (j + 1))) (e * 5 + k) = f (e * 5 + k) := by
    intro e k he hk
    unfold put5
    rw [if_neg (by omega), if_neg (by omega), if_neg (by omega), if_neg (by omega), if_neg (by omega)]
  refine ⟨?_, ?_, ?_, ?_⟩
  · intro e he
    by_cases hj : e = j
    · subst hj; unfold put5
      rw [if_neg (by omega), if_neg (by omega), if_neg (by omega), if_neg (by omega), if_pos rfl]
    · exact (old e 0 (by omega) (by omega)).trans (h.par e (by omega))
  · intro e he
    by_cases hj : e = j
    · subst hj; unfold put5
      rw [if_neg (by omega), if_neg (by omega), if_pos rfl]
    · rw [old e 2 (by omega) (by omega)]; exact h.dep e (by omega)
  · intro e he
    by_cases hj : e = j
    · subst hj
      refine ⟨x, hx.1, hx.2, ?_⟩
      unfold put5
      rw [if_neg (by omega), if_pos rfl]
    · rw [old e 3 (by omega) (by omega)]; exact h.fin e (by omega)
  · intro e he
    by_cases hj : e = j
    · subst hj; unfold put5
      rw [if_pos rfl]
    · rw [old e 4 (by omega) (by omega)]; exact h.jmp e (by omega)

theorem Trym.info32 : (Trym.prog.info? 32).map (fun i => (i.zero, i.size, i.bytes)) = some (some (.agg #[.pointer none, .slice none 0 0, .int .i64 0, .int .i64 0, .pointer none]), 5, 56) := by kernel_rfl

/-- 'make([]ZZPlace, n)' -/
theorem make_places {ops : Array Oper} {rest : List Oper} {o : Oper} {a : Act} {Q : Exit → Act → World → Prop} {w : World} (hg : o.guard = none) (l c : Operand) (hop : o.op = Op.makeSlice 26 l c)
    (n : Nat) (hl : a.eval l = .int .i64 (n : Int)) (hc : a.eval c = .int .i64 (n : Int)) (hn : (n : Int) ≤ 65536)
    (hK : ∀ w' f, w'.rowIs w.heap.size 32 (n * 5) f → Below w.heap.size w w' → wpList Trym.prog ops Q rest (a.put o.dst (.slice (some ⟨w.heap.size, 0, none⟩) n n)) w') : wpList Trym.prog ops Q (o :: rest) a w := by
  obtain ⟨i0, hi, hz0, hz1, hz2⟩ := info_parts Trym.info32
  refine wpList_plain hg fun K hK' => ?_
  have hrun := run_make (P := Trym.prog) w 26 32 i0 _ Trym.underlying26 hi hz0 .i64 .i64 (n : Int) (n : Int) (by omega) (Int.le_refl _) (by rw [hz2]; omega) (by omega)
  rw [Int.toNat_natCast, hz1] at hrun
  unfold Oper.wp
  simp [execOp, hop, hl, hc, hrun, Result.andThen]
  refine hK' _ _ (hK _ (fun c => (madeCells (Value.agg #[.pointer none, .slice none 0 0, .int .i64 0, .int .i64 0, .pointer none]).cells (n * 5))[c]!) ?_ ((Below.refl _ _).alloc (Nat.le_refl _) _))
  have h := World.rowIs_alloc w (madeCells (Value.agg #[.pointer none, .slice none 0 0, .int .i64 0, .int .i64 0, .pointer none]).cells (n * 5)) 32 (fun c => (madeCells (Value.agg #[.pointer none, .slice none 0 0, .int .i64 0, .int .i64 0, .pointer none]).cells (n * 5))[c]!)
    (fun i hi => by simp [hi])
  rw [size_madeCells] at h
  exact h

set_option maxHeartbeats 2000000 in
theorem chain8 (tb tf n tc : Nat) (w : World) (A : Nat → Option Addr) (L C : Nat → Nat) (hn : (n : Int) ≤ 65536) (htb : tb < w.heap.size)
    (hT : ∀ k, k < n → w.cell? ⟨tb, tf + k, none⟩ = some (.slice (A k) (L k) (C k))) (hL : ∀ k, k < n → (L k : Int) ≤ 1048576) :
    Calls Trym.prog 8 #[.slice (some ⟨tb, tf, none⟩) n tc] w fun e w' => e = .returned (.slice (some ⟨w.heap.size, 0, none⟩) n n) ∧
      (∃ f, w'.rowIs w.heap.size 32 (n * 5) f ∧ ChF f w.heap.size n) ∧ Below w.heap.size w w' := by
  have HT : Hid (∀ k, k < n → w.cell? ⟨tb, tf + k, none⟩ = some (.slice (A k) (L k) (C k))) := hT
  have HL : Hid (∀ k, k < n → (L k : Int) ≤ 1048576) := hL
  clear hT hL
  go_enter Trym.func8, Trym.ntmps8
  go_wp2_with (at_make; refine make_places rfl _ _ rfl n rfl rfl hn ?_; intro w1 f1 hrow1 hB1)
  go_loopg [4] n (fun k i wr => ∃ (j : Nat) (f : Nat → Value), j ≤ n ∧ i = .int .i64 (j : Int) ∧ n - j ≤ k ∧ wr.rowIs w.heap.size 32 (n * 5) f ∧ ChF f w.heap.size j ∧ Below w.heap.size w wr)
  case atStart => exact ⟨0, f1, Nat.zero_le _, rfl, by omega, hrow1, ⟨fun e h => absurd h (by omega), fun e h => absurd h (by omega), fun e h => absurd h (by omega), fun e h => absurd h (by omega)⟩, hB1⟩
  case round =>
    clear hrow1 hB1
    obtain ⟨j, f, hj, rfl, hk, hrow, hch, hB⟩ := hrel
    by_cases hlt : j < n
    · have hc : wr.cell? ⟨tb, tf + j, none⟩ = some (.slice (A j) (L j) (C j)) := (hB.cell (p := ⟨tb, tf + j, none⟩) htb).trans (HT.out j hlt)
      have hLj := HL.out j hlt
      have hlg := hrow.lt
      obtain ⟨p2, hp2⟩ := ptrOf_pointer w.heap.size (J (j + 1))
      have hP := place15 wr w.heap.size n j j f hrow hch hj hn (Nat.le_refl _) (A j) (L j) (C j) hLj
      rw [hp2] at hP
      have HR : Hid (wr.rowIs w.heap.size 32 (n * 5) f) := hrow
      have HC : Hid (ChF f w.heap.size j) := hch
      have HB : Hid (Below w.heap.size w wr) := hB
      have HP2 : Hid (ptrOf w.heap.size (J (j + 1)) = .pointer p2) := hp2
      clear hp2 hrow hch hB
      cases j with
      | zero =>
        have HP : Hid (Calls Trym.prog 15 #[.pointer none, .slice (A 0) (L 0) (C 0)] wr fun e w' => ∃ x : Int, (0 ≤ x ∧ x ≤ (((0 : Nat) : Int) + 1) * 1048577) ∧
          e = .returned (.agg #[.pointer none, .slice (A 0) (L 0) (C 0), .int .i64 (((0 : Nat) : Int) + 1), .int .i64 x, .pointer p2]) ∧ Below wr.heap.size wr w') := hP
        clear hP
        have hc' : wr.cell? ⟨tb, tf, none⟩ = some (.slice (A 0) (L 0) (C 0)) := by simpa using hc
        go_wp2_with fail
        refine Calls.mono HP.out ?_
        rintro e w2 ⟨x, hx, rfl, hB2⟩
        have hrow2 := HR.out.of_block (hB2.block w.heap.size hlg)
        have c0 := hrow2.cell (i := 0) (by omega)
        have f0 := hrow2.frozen (0)
        have c1 := hrow2.cell (i := 1) (by omega)
        have f1 := hrow2.frozen (1)
        have c2 := hrow2.cell (i := 2) (by omega)
        have f2 := hrow2.frozen (2)
        have c3 := hrow2.cell (i := 3) (by omega)
        have f3 := hrow2.frozen (3)
        have c4 := hrow2.cell (i := 4) (by omega)
        have f4 := hrow2.frozen (4)
        have HR2 : Hid (w2.rowIs w.heap.size 32 (n * 5) f) := hrow2
        have HB2 : Hid (Below w.heap.size w w2) := HB.out.trans (hB2.mono HB.out.size)
        clear hrow2 hB2 HP
        go_wp2_with fail
        go_roundg (gk - 1)
        case measure => omega
        case rel =>
          refine ⟨1, put5 f (0 * 5) (ptrOf w.heap.size 0) (.slice (A 0) (L 0) (C 0)) (.int .i64 (((0 : Nat) : Int) + 1)) (.int .i64 x) (ptrOf w.heap.size (J (0 + 1))), by omega, rfl, by omega, ?_, ch_step HC.out _ x hx, ?_⟩
          · rw [HP2.out]; exact row_put5 HR2.out 0 _ _ _ _ _
          · exact ((((HB2.out.setCell (p := ⟨w.heap.size, _, none⟩) (Nat.le_refl _) _).setCell (p := ⟨w.heap.size, _, none⟩) (Nat.le_refl _) _).setCell (p := ⟨w.heap.size, _, none⟩) (Nat.le_refl _) _).setCell (p := ⟨w.heap.size, _, none⟩) (Nat.le_refl _) _).setCell (p := ⟨w.heap.size, _, none⟩) (Nat.le_refl _) _
      | succ e =>
        have HP : Hid (Calls Trym.prog 15 #[.pointer (some ⟨w.heap.size, e * 5, none⟩), .slice (A (e + 1)) (L (e + 1)) (C (e + 1))] wr fun en w' => ∃ x : Int, (0 ≤ x ∧ x ≤ (((e + 1 : Nat) : Int) + 1) * 1048577) ∧
          en = .returned (.agg #[.pointer (some ⟨w.heap.size, e * 5, none⟩), .slice (A (e + 1)) (L (e + 1)) (C (e + 1)), .int .i64 (((e + 1 : Nat) : Int) + 1), .int .i64 x, .pointer p2]) ∧ Below wr.heap.size wr w') := hP
        clear hP
        have hpos : (0 : Int) < ((e + 1 : Nat) : Int) := by omega
        go_wp2_with fail
        refine Calls.mono HP.out ?_
        rintro en w2 ⟨x, hx, rfl, hB2⟩
        have hrow2 := HR.out.of_block (hB2.block w.heap.size hlg)
        have c0 := hrow2.cell (i := (e + 1) * 5) (by omega)
        have f0 := hrow2.frozen ((e + 1) * 5)
        have c1 := hrow2.cell (i := (e + 1) * 5 + 1) (by omega)
        have f1 := hrow2.frozen ((e + 1) * 5 + 1)
        have c2 := hrow2.cell (i := (e + 1) * 5 + 2) (by omega)
        have f2 := hrow2.frozen ((e + 1) * 5 + 2)
        have c3 := hrow2.cell (i := (e + 1) * 5 + 3) (by omega)
        have f3 := hrow2.frozen ((e + 1) * 5 + 3)
        have c4 := hrow2.cell (i := (e + 1) * 5 + 4) (by omega)
        have f4 := hrow2.frozen ((e + 1) * 5 + 4)
        have HR2 : Hid (w2.rowIs w.heap.size 32 (n * 5) f) := hrow2
        have HB2 : Hid (Below w.heap.size w w2) := HB.out.trans (hB2.mono HB.out.size)
        clear hrow2 hB2 HP
        go_wp2_with fail
        go_roundg (gk - 1)
        case measure => omega
        case rel =>
          refine ⟨e + 1 + 1, put5 f ((e + 1) * 5) (ptrOf w.heap.size (e + 1)) (.slice (A (e + 1)) (L (e + 1)) (C (e + 1))) (.int .i64 (((e + 1 : Nat) : Int) + 1)) (.int .i64 x) (ptrOf w.heap.size (J (e + 1 + 1))), by omega, by go_num, by omega, ?_, ch_step HC.out _ x hx, ?_⟩
          · rw [HP2.out]; exact row_put5 HR2.out ((e + 1) * 5) _ _ _ _ _
          · exact ((((HB2.out.setCell (p := ⟨w.heap.size, _, none⟩) (Nat.le_refl _) _).setCell (p := ⟨w.heap.size, _, none⟩) (Nat.le_refl _) _).setCell (p := ⟨w.heap.size, _, none⟩) (Nat.le_refl _) _).setCell (p := ⟨w.heap.size, _, none⟩) (Nat.le_refl _) _).setCell (p := ⟨w.heap.size, _, none⟩) (Nat.le_refl _) _
    · obtain rfl : j = n := by omega
      have HR : Hid (wr.rowIs w.heap.size 32 (j * 5) f) := hrow
      have HC : Hid (ChF f w.heap.size j) := hch
      have HB : Hid (Below w.heap.size w wr) := hB
      clear hrow hch hB
      go_wp2_with fail
      go_ret
      exact ⟨rfl, ⟨f, HR.out, HC.out⟩, HB.out⟩
end Go.Proofs.Qxb6001486aMods
