/- b5157a: LawS5157CLater (function 4): the walk. -/
import Derived.Test.YbulkdbtwParts
namespace Go.Proofs.Ybulkdbtw.lawS5157CLater
open Go.RowKit

set_option maxHeartbeats 800000 in
theorem walk (a c : Int) (w : World) :
    Calls Yba.prog 4 #[.int .i64 a, .int .i64 c] w fun e w' => e = .returned (.bool true) ∧ Grown w w' := by
  go_enter Yba.func4, Yba.ntmps4
  go_wp2_with fail
  have r0 : Ret (w.alloc (.cells #[.nilIface, .int .i64 0, .int .i64 0, .int .i64 0, .nilFunc, .nilFunc] 32)) w.heap.size .nilIface 0 0 0 := heap_alloc_new w _
  refine (att_at a w _ (w.heap.size + 1) (by simp) ((Grown.refl w).alloc _ _)).mono ?_
  rintro e w1 ⟨rfl, c1, -, k1, g1⟩
  have r1 : Ret w1 w.heap.size .nilIface 0 0 0 := (k1 _ (by omega)).trans r0
  go_wp2_with fail
  refine (opt_at _ _ a w w1 _ _ _ _ c1 r1 (Nat.le_refl _) g1).mono ?_
  rintro e w2 ⟨rfl, r2, -, k2, g2⟩
  go_wp2_with fail
  refine (att_at c w w2 w2.heap.size rfl g2).mono ?_
  rintro e w3 ⟨rfl, c3, -, k3, g3⟩
  have r3 : Ret w3 w.heap.size .nilIface 0 0 (clamp a) := (k3 _ r2.lt).trans r2
  go_wp2_with fail
  refine (opt_at _ _ c w w3 _ _ _ _ c3 r3 (Nat.le_refl _) g3).mono ?_
  rintro e w4 ⟨rfl, r4, -, k4, g4⟩
  have f4 := r4.cells.2.2.2.1
  clear r0 r1 r2 r3 r4 c1 c3 k1 k2 k3 k4 g1 g2 g3
  go_wp2_with fail
  go_quiet ((go_at_call 6; exact Calls.quiet_of_same (clamp_any _ _)))
  go_wp2_with fail
  have g4' : Grown w (w4.drewN nq) := g4
  have r5 : Ret ((w4.drewN nq).alloc (.cells #[.nilIface, .int .i64 0, .int .i64 0, .int .i64 0, .nilFunc, .nilFunc] 32)) w4.heap.size .nilIface 0 0 0 := heap_alloc_new (w4.drewN nq) _
  have lo5 : w.heap.size ≤ w4.heap.size := g4.2.2
  refine (att_at a w _ (w4.heap.size + 1) (by simp) (g4'.alloc _ _)).mono ?_
  rintro e w6 ⟨rfl, c6, -, k6, g6⟩
  have r6 : Ret w6 w4.heap.size .nilIface 0 0 0 := (k6 _ (by omega)).trans r5
  clear r5 k6
  go_wp2_with fail
  refine (opt_at _ _ a w w6 _ _ _ _ c6 r6 lo5 g6).mono ?_
  rintro e w7 ⟨rfl, r7, -, k7, g7⟩
  have c7 := (k7 (w4.heap.size + 1) (by omega)).trans c6
  have f7 := r7.cells.2.2.2.1
  clear c6 r6 k7 g6
  go_wp2_with fail
  refine (opt_at _ _ a w w7 _ _ _ _ c7 r7 lo5 g7).mono ?_
  rintro e w8 ⟨rfl, r8, -, -, g8⟩
  have f8 := r8.cells.2.2.2.1
  clear c7 r7 f7 g7 r8 g4 g4' f4
  go_wp2_with (go_at_call 6; refine (clamp_any a _).mono ?_; rintro e w9 ⟨rfl, rfl⟩)
  go_ret
  exact ⟨by simp, g8⟩
end Go.Proofs.Ybulkdbtw.lawS5157CLater
