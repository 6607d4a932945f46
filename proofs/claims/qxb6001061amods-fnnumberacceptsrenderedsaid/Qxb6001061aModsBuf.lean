import Derived.Test.Qxb6001061aModsRows
import Derived.WalkKit
import Derived.ProofKit
namespace Go.Proofs.Qxb6001061aMods
open Go.ChangeShapes Go.WideShapes Go.ChangeAt Go.RowKit

theorem Trym.info5 : (Trym.prog.info? 5).map (fun i => (i.zero, i.size, i.bytes)) = some (some (.int .u8 0), 1, 1) := by kernel_rfl

/-- A slice of bytes of the call's own, which owns xs; what was there when the call began is as it was. -/
structure Buf (w0 w : World) (v : Value) (xs : List Int) : Prop where
  own : w.ownsRow w0.heap.size 5 1 v xs.length (xs.map (Value.int .u8))
  below : Below w0.heap.size w0 w

theorem Buf.own_ge {w0 w : World} {v : Value} {xs : List Int} (h : Buf w0 w v xs) : ∀ k, v.ownBlock = some k → w0.heap.size ≤ k := by
  intro k hk
  obtain ⟨_, h2⟩ := h.own
  rcases h2 with ⟨rfl, _⟩ | ⟨g, cap, cur, rfl, hg, _⟩
  · cases hk
  · cases hk; exact hg

/-- 'make([]byte, 0, n)' -/
theorem make_law {ops : Array Oper} {rest : List Oper} {o : Oper} {a : Act} {Q : Exit → Act → World → Prop} {w : World} (hg : o.guard = none) (l c : Operand) (hop : o.op = Op.makeSlice 22 l c)
    (n : Nat) (hl : a.eval l = .int .i64 0) (hc : a.eval c = .int .i64 (n : Int)) (hn : (n : Int) ≤ 8388608)
    (hK : ∀ v' w', Buf w w' v' [] → wpList Trym.prog ops Q rest (a.put o.dst v') w') : wpList Trym.prog ops Q (o :: rest) a w := by
  obtain ⟨i0, hi, hz0, hz1, hz2⟩ := info_parts Trym.info5
  refine wpList_make_own w hg l c 22 hop w.heap.size 5 i0 (.int .u8 0) 1 Trym.underlying22 hi hz0 hz1 .i64 .i64 _ n hl hc rfl (by rw [hz2]; omega) (by unfold maxLen; omega) (Nat.le_refl _) ?_
  intro w' hown hgrow
  exact hK _ _ ⟨hown, (Below.refl _ _).grown hgrow (Nat.le_refl _) (fun k h => by cases h)⟩

/-- 'data = append(data, c)': the one byte lies in a block of its own. -/
theorem push_law {ops : Array Oper} {rest : List Oper} {o : Oper} {a : Act} {Q : Exit → Act → World → Prop} {w0 w : World} {v : Value} {xs : List Int} {c : Int} (hb : Buf w0 w v xs) (hlen : (xs.length : Int) ≤ 4194304)
    (hgd : o.guard = none) (s x : Operand) (ho : o.op = .call { callee := .builtin .append, args := #[s, x], argTypes := #[22, 22] })
    (hs : a.eval s = v) (hx : a.eval x = .slice (some ⟨w.heap.size, 0, none⟩) 1 1)
    (hK : ∀ v' w', Buf w0 w' v' (xs ++ [c]) → wpList Trym.prog ops Q rest (a.put o.dst v') w') : wpList Trym.prog ops Q (o :: rest) a (w.alloc (.cells #[.int .u8 c] 5)) := by
  obtain ⟨i0, hi, hz0, hz1, hz2⟩ := info_parts Trym.info5
  have hsz := hb.below.size
  refine wpList_append_own _ hgd s x 22 ho w0.heap.size 5 i0 (.int .u8 0) 1 1 Trym.underlying22 hi hz0 hz1 hz2 rfl (by decide) v xs.length _ hs (hb.own.alloc _) ⟨w.heap.size, 0, none⟩ 1 1 [.int .u8 c] hx rfl ?_ ?_ ?_ ?_ ?_ ?_
  · intro j u hj
    match j, hj with
    | 0, hj => simp at hj; subst hj; simp [Addr.add, go_sem]
  · intro u hu; simp at hu; subst hu; rfl
  · unfold maxLen; omega
  · omega
  · simp; omega
  · intro v' w1 hown' hgrow _
    refine hK v' w1 ⟨?_, ?_⟩
    · simpa using hown'
    · exact (hb.below.alloc hsz _).grown hgrow (by simp; omega) hb.own_ge

/-- What a buffer that is not empty is. -/
theorem Buf.shape {w0 w : World} {v : Value} {xs : List Int} (h : Buf w0 w v xs) (hne : 0 < xs.length) :
    ∃ g cap, v = .slice (some ⟨g, 0, none⟩) xs.length cap ∧ g < w.heap.size ∧ ∀ k, k < xs.length → w.cell? ⟨g, 0 + k, none⟩ = some (.int .u8 (xs[k]?.getD 0)) := by
  obtain ⟨_, h2⟩ := h.own
  rcases h2 with ⟨_, h0⟩ | ⟨g, cap, cur, rfl, hg, hh, hle, hmx, hcs, htk⟩
  · omega
  · refine ⟨g, cap, rfl, ?_, ?_⟩
    · apply Nat.lt_of_not_le; intro hle2; rw [Array.getElem?_eq_none hle2] at hh; cases hh
    · intro k hk
      have hk2 : (cur.toList.take (xs.length * 1))[k]? = some (.int .u8 (xs[k]?.getD 0)) := by
        rw [htk, List.getElem?_map, List.getElem?_eq_getElem hk]; simp
      rw [List.getElem?_take, if_pos (by omega)] at hk2
      simp only [World.cell?, hh, Nat.zero_add]
      simpa using hk2

end Go.Proofs.Qxb6001061aMods
