import Derived.Test.Qxb6001486aModsRows
import Derived.Test.Qxb6001486aModsSkew
import Derived.WalkKit
import Derived.ProofKit
import Derived.OpenShut
import Derived.BigRegion
import Derived.BigQuiet
import Derived.WalkSmall
import Derived.Deep.LoopGhost
import Derived.Deep.DeepCutAuto
namespace Go.Proofs.Qxb6001486aMods
open Go.ChangeShapes Go.WideShapes Go.ChangeAt Go.RowKit

set_option maxRecDepth 100000 in
set_option maxHeartbeats 1000000 in
theorem make_nil (ta : Option Addr) (tl tc : Nat) (w : World) (htl : (tl : Int) ≤ 1048576) :
    Calls Trym.prog 16 #[.pointer none, .slice ta tl tc] w fun e w' => e = .returned (.agg #[.pointer none, .slice ta tl tc, .int .i64 1, .int .i64 (1 + (tl : Int)), .pointer none]) ∧ Below w.heap.size w w' := by
  go_enter Trym.func16, Trym.ntmps16
  go_wp2
  exact bodyPost_ret (v := .agg #[.pointer none, .slice ta tl tc, .int .i64 1, .int .i64 (1 + (tl : Int)), .pointer none]) (by simp [results, Trym.results16, go_sem]) rfl
    ⟨rfl, ((Below.refl _ _).alloc (Nat.le_refl _) _).alloc (by simp) _⟩

theorem place_below (w : World) (a b : Obj) (n : Nat) : Below w.heap.size w (((w.alloc a).alloc b).drewN n) :=
  below_drewN (((Below.refl _ _).alloc (Nat.le_refl _) _).alloc (by simp) _) n
theorem place_below6 (w : World) (a b : Obj) (n : Nat) (v0 v1 v2 v3 v4 v5 : Value) : Below w.heap.size w ((((((((w.alloc a).alloc b).drewN n).setCell ⟨w.heap.size + 1, 4, none⟩ v0).setCell ⟨w.heap.size, 0, none⟩ v1).setCell ⟨w.heap.size, 1, none⟩ v2).setCell ⟨w.heap.size, 2, none⟩ v3).setCell ⟨w.heap.size, 3, none⟩ v4 |>.setCell ⟨w.heap.size, 4, none⟩ v5) :=
  ((((((place_below w a b n).setCell (p := ⟨w.heap.size + 1, 4, none⟩) (Nat.le_succ _) v0).setCell (p := ⟨w.heap.size, 0, none⟩) (Nat.le_refl _) v1).setCell (p := ⟨w.heap.size, 1, none⟩) (Nat.le_refl _) v2).setCell (p := ⟨w.heap.size, 2, none⟩) (Nat.le_refl _) v3).setCell (p := ⟨w.heap.size, 3, none⟩) (Nat.le_refl _) v4).setCell (p := ⟨w.heap.size, 4, none⟩) (Nat.le_refl _) v5
theorem place_below5 (w : World) (a b : Obj) (n : Nat) (v1 v2 v3 v4 v5 : Value) : Below w.heap.size w (((((((w.alloc a).alloc b).drewN n).setCell ⟨w.heap.size, 0, none⟩ v1).setCell ⟨w.heap.size, 1, none⟩ v2).setCell ⟨w.heap.size, 2, none⟩ v3).setCell ⟨w.heap.size, 3, none⟩ v4 |>.setCell ⟨w.heap.size, 4, none⟩ v5) :=
  (((((place_below w a b n).setCell (p := ⟨w.heap.size, 0, none⟩) (Nat.le_refl _) v1).setCell (p := ⟨w.heap.size, 1, none⟩) (Nat.le_refl _) v2).setCell (p := ⟨w.heap.size, 2, none⟩) (Nat.le_refl _) v3).setCell (p := ⟨w.heap.size, 3, none⟩) (Nat.le_refl _) v4).setCell (p := ⟨w.heap.size, 4, none⟩) (Nat.le_refl _) v5
theorem place_below1 (w : World) (a b : Obj) : Below w.heap.size w (((w.alloc a).alloc b).drew) :=
  (((Below.refl _ _).alloc (Nat.le_refl _) _).alloc (by simp) _).drew

set_option maxRecDepth 100000 in
set_option maxHeartbeats 2000000 in
theorem make_p0 (g o : Nat) (dp en : Int) (ta : Option Addr) (tl tc : Nat) (w : World) (htl : (tl : Int) ≤ 1048576) (hg : g < w.heap.size)
    (h2 : w.cell? ⟨g, o + 2, none⟩ = some (.int .i64 dp)) (h3 : w.cell? ⟨g, o + 3, none⟩ = some (.int .i64 en))
    (hdp : 0 ≤ dp) (hdp2 : dp ≤ 1048576) (hen : 0 ≤ en) (hen2 : en ≤ 1099511627776)
    (h4 : w.cell? ⟨g, o + 4, none⟩ = some (.pointer none)) :
    Calls Trym.prog 16 #[.pointer (some ⟨g, o, none⟩), .slice ta tl tc] w fun e w' => e = .returned (.agg #[.pointer (some ⟨g, o, none⟩), .slice ta tl tc, .int .i64 (dp + 1), .int .i64 (en + 1 + (tl : Int)), .pointer (some ⟨g, o, none⟩)]) ∧ Below w.heap.size w w' := by
  go_enter Trym.func16, Trym.ntmps16
  go_upto_region 4 with fail
  go_region
  go_wp2
  exact bodyPost_ret (v := .agg #[.pointer (some ⟨g, o, none⟩), .slice ta tl tc, .int .i64 (dp + 1), .int .i64 (en + 1 + (tl : Int)), .pointer (some ⟨g, o, none⟩)]) (by simp [results, Trym.results16, go_sem]) rfl ⟨rfl, place_below1 w _ _⟩

set_option maxRecDepth 100000 in
set_option maxHeartbeats 2000000 in
theorem make_p1_eq (g o : Nat) (dp en : Int) (ta : Option Addr) (tl tc : Nat) (w : World) (htl : (tl : Int) ≤ 1048576) (hg : g < w.heap.size)
    (h2 : w.cell? ⟨g, o + 2, none⟩ = some (.int .i64 dp)) (h3 : w.cell? ⟨g, o + 3, none⟩ = some (.int .i64 en))
    (hdp : 0 ≤ dp) (hdp2 : dp ≤ 1048576) (hen : 0 ≤ en) (hen2 : en ≤ 1099511627776)
    (oj : Nat) (dj : Int) (h4 : w.cell? ⟨g, o + 4, none⟩ = some (.pointer (some ⟨g, oj, none⟩))) (hj2 : w.cell? ⟨g, oj + 2, none⟩ = some (.int .i64 dj)) (hdj : 0 ≤ dj) (hdj2 : dj ≤ 1048576) (hj4 : w.cell? ⟨g, oj + 4, none⟩ = some (.pointer none)) (hq : (dp - dj == dj) = true) :
    Calls Trym.prog 16 #[.pointer (some ⟨g, o, none⟩), .slice ta tl tc] w fun e w' => e = .returned (.agg #[.pointer (some ⟨g, o, none⟩), .slice ta tl tc, .int .i64 (dp + 1), .int .i64 (en + 1 + (tl : Int)), .pointer none]) ∧ Below w.heap.size w w' := by
  go_enter Trym.func16, Trym.ntmps16
  go_upto_region 4 with fail
  go_region
  go_wp2
  go_quiet (fail)
  go_wp2
  exact bodyPost_ret (v := .agg #[.pointer (some ⟨g, o, none⟩), .slice ta tl tc, .int .i64 (dp + 1), .int .i64 (en + 1 + (tl : Int)), .pointer none]) (by simp [results, Trym.results16, go_sem]) rfl ⟨rfl, place_below6 w _ _ _ _ _ _ _ _ _⟩

set_option maxRecDepth 100000 in
set_option maxHeartbeats 2000000 in
theorem make_p1_ne (g o : Nat) (dp en : Int) (ta : Option Addr) (tl tc : Nat) (w : World) (htl : (tl : Int) ≤ 1048576) (hg : g < w.heap.size)
    (h2 : w.cell? ⟨g, o + 2, none⟩ = some (.int .i64 dp)) (h3 : w.cell? ⟨g, o + 3, none⟩ = some (.int .i64 en))
    (hdp : 0 ≤ dp) (hdp2 : dp ≤ 1048576) (hen : 0 ≤ en) (hen2 : en ≤ 1099511627776)
    (oj : Nat) (dj : Int) (h4 : w.cell? ⟨g, o + 4, none⟩ = some (.pointer (some ⟨g, oj, none⟩))) (hj2 : w.cell? ⟨g, oj + 2, none⟩ = some (.int .i64 dj)) (hdj : 0 ≤ dj) (hdj2 : dj ≤ 1048576) (hj4 : w.cell? ⟨g, oj + 4, none⟩ = some (.pointer none)) (hq : (dp - dj == dj) = false) :
    Calls Trym.prog 16 #[.pointer (some ⟨g, o, none⟩), .slice ta tl tc] w fun e w' => e = .returned (.agg #[.pointer (some ⟨g, o, none⟩), .slice ta tl tc, .int .i64 (dp + 1), .int .i64 (en + 1 + (tl : Int)), .pointer (some ⟨g, o, none⟩)]) ∧ Below w.heap.size w w' := by
  go_enter Trym.func16, Trym.ntmps16
  go_upto_region 4 with fail
  go_region
  go_wp2
  go_quiet (fail)
  go_wp2
  exact bodyPost_ret (v := .agg #[.pointer (some ⟨g, o, none⟩), .slice ta tl tc, .int .i64 (dp + 1), .int .i64 (en + 1 + (tl : Int)), .pointer (some ⟨g, o, none⟩)]) (by simp [results, Trym.results16, go_sem]) rfl ⟨rfl, place_below5 w _ _ _ _ _ _ _ _⟩

set_option maxRecDepth 100000 in
set_option maxHeartbeats 2000000 in
theorem make_p2_eq (g o : Nat) (dp en : Int) (ta : Option Addr) (tl tc : Nat) (w : World) (htl : (tl : Int) ≤ 1048576) (hg : g < w.heap.size)
    (h2 : w.cell? ⟨g, o + 2, none⟩ = some (.int .i64 dp)) (h3 : w.cell? ⟨g, o + 3, none⟩ = some (.int .i64 en))
    (hdp : 0 ≤ dp) (hdp2 : dp ≤ 1048576) (hen : 0 ≤ en) (hen2 : en ≤ 1099511627776)
    (oj : Nat) (dj : Int) (h4 : w.cell? ⟨g, o + 4, none⟩ = some (.pointer (some ⟨g, oj, none⟩))) (hj2 : w.cell? ⟨g, oj + 2, none⟩ = some (.int .i64 dj)) (hdj : 0 ≤ dj) (hdj2 : dj ≤ 1048576) (ol : Nat) (dl : Int) (hj4 : w.cell? ⟨g, oj + 4, none⟩ = some (.pointer (some ⟨g, ol, none⟩))) (hl2 : w.cell? ⟨g, ol + 2, none⟩ = some (.int .i64 dl)) (hdl : 0 ≤ dl) (hdl2 : dl ≤ 1048576) (hq : (dp - dj == dj - dl) = true) :
    Calls Trym.prog 16 #[.pointer (some ⟨g, o, none⟩), .slice ta tl tc] w fun e w' => e = .returned (.agg #[.pointer (some ⟨g, o, none⟩), .slice ta tl tc, .int .i64 (dp + 1), .int .i64 (en + 1 + (tl : Int)), .pointer (some ⟨g, ol, none⟩)]) ∧ Below w.heap.size w w' := by
  go_enter Trym.func16, Trym.ntmps16
  go_upto_region 4 with fail
  go_region
  go_wp2
  go_quiet (fail)
  go_wp2
  exact bodyPost_ret (v := .agg #[.pointer (some ⟨g, o, none⟩), .slice ta tl tc, .int .i64 (dp + 1), .int .i64 (en + 1 + (tl : Int)), .pointer (some ⟨g, ol, none⟩)]) (by simp [results, Trym.results16, go_sem]) rfl ⟨rfl, place_below6 w _ _ _ _ _ _ _ _ _⟩

set_option maxRecDepth 100000 in
set_option maxHeartbeats 2000000 in
theorem make_p2_ne (g o : Nat) (dp en : Int) (ta : Option Addr) (tl tc : Nat) (w : World) (htl : (tl : Int) ≤ 1048576) (hg : g < w.heap.size)
    (h2 : w.cell? ⟨g, o + 2, none⟩ = some (.int .i64 dp)) (h3 : w.cell? ⟨g, o + 3, none⟩ = some (.int .i64 en))
    (hdp : 0 ≤ dp) (hdp2 : dp ≤ 1048576) (hen : 0 ≤ en) (hen2 : en ≤ 1099511627776)
    (oj : Nat) (dj : Int) (h4 : w.cell? ⟨g, o + 4, none⟩ = some (.pointer (some ⟨g, oj, none⟩))) (hj2 : w.cell? ⟨g, oj + 2, none⟩ = some (.int .i64 dj)) (hdj : 0 ≤ dj) (hdj2 : dj ≤ 1048576) (ol : Nat) (dl : Int) (hj4 : w.cell? ⟨g, oj + 4, none⟩ = some (.pointer (some ⟨g, ol, none⟩))) (hl2 : w.cell? ⟨g, ol + 2, none⟩ = some (.int .i64 dl)) (hdl : 0 ≤ dl) (hdl2 : dl ≤ 1048576) (hq : (dp - dj == dj - dl) = false) :
    Calls Trym.prog 16 #[.pointer (some ⟨g, o, none⟩), .slice ta tl tc] w fun e w' => e = .returned (.agg #[.pointer (some ⟨g, o, none⟩), .slice ta tl tc, .int .i64 (dp + 1), .int .i64 (en + 1 + (tl : Int)), .pointer (some ⟨g, o, none⟩)]) ∧ Below w.heap.size w w' := by
  go_enter Trym.func16, Trym.ntmps16
  go_upto_region 4 with fail
  go_region
  go_wp2
  go_quiet (fail)
  go_wp2
  exact bodyPost_ret (v := .agg #[.pointer (some ⟨g, o, none⟩), .slice ta tl tc, .int .i64 (dp + 1), .int .i64 (en + 1 + (tl : Int)), .pointer (some ⟨g, o, none⟩)]) (by simp [results, Trym.results16, go_sem]) rfl ⟨rfl, place_below5 w _ _ _ _ _ _ _ _⟩

end Go.Proofs.Qxb6001486aMods
