/- b5157a: LawS5157CSets (function 3): the walk. -/
import Derived.Test.YbulkdbtwParts
import Derived.LaidEql
namespace Go.Proofs.Ybulkdbtw.lawS5157CSets
open Go.RowKit

theorem nilFunc29 (w : World) : (binOp .eql 29 .nilFunc .nilFunc).run Yba.prog w = .ok (.bool true) w := by kernel_rfl
theorem nilFunc30 (w : World) : (binOp .eql 30 .nilFunc .nilFunc).run Yba.prog w = .ok (.bool true) w := by kernel_rfl

theorem info22 : (Yba.prog.info? 22).map (fun i => i.comparable) = some true := by kernel_rfl
theorem info24 : (Yba.prog.info? 24).map (fun i => i.comparable) = some true := by kernel_rfl
theorem neq_same (a : Addr) (w : World) : (binOp .neq 28 (.iface 22 (.pointer (some a))) (.iface 22 (.pointer (some a)))).run Yba.prog w = .ok (.bool false) w := by
  obtain ⟨i, hi, hc⟩ := Option.map_eq_some_iff.1 info22
  obtain ⟨j, hj, _⟩ := Option.map_eq_some_iff.1 info24
  simp only [binOp]
  simp [Op.equal, Op.maxDepth, run_equalIn_iface_ptr_same w 9998 a Yba.underlying28 Yba.underlying22 hi hc hj]

set_option maxHeartbeats 800000 in
theorem walk (d mr me prev : Int) (w : World) :
    Calls Yba.prog 3 #[.int .i64 d, .int .i64 mr, .int .i64 me, .int .i64 prev] w fun e w' => e = .returned (.bool true) ∧ Grown w w' := by
  have n29 := nilFunc29
  have n30 := nilFunc30
  have n28 := neq_same
  have hcl : ¬ clamp d < 0 := by unfold clamp; split <;> omega
  go_enter Yba.func3, Yba.ntmps3
  go_wp2_with fail
  have r0 : Ret ((w.alloc (.cells #[.int .i64 0] 24)).alloc (.cells #[.iface 22 (.pointer (some ⟨w.heap.size, 0, none⟩)), .int .i64 mr, .int .i64 me, .int .i64 prev, .nilFunc, .nilFunc] 32)) (w.heap.size + 1) (.iface 22 (.pointer (some ⟨w.heap.size, 0, none⟩))) mr me prev := by
    have := heap_alloc_new (w.alloc (.cells #[.int .i64 0] 24)) (.cells #[.iface 22 (.pointer (some ⟨w.heap.size, 0, none⟩)), .int .i64 mr, .int .i64 me, .int .i64 prev, .nilFunc, .nilFunc] 32)
    simpa [Ret] using this
  have b0 : ((w.alloc (.cells #[.int .i64 0] 24)).alloc (.cells #[.iface 22 (.pointer (some ⟨w.heap.size, 0, none⟩)), .int .i64 mr, .int .i64 me, .int .i64 prev, .nilFunc, .nilFunc] 32)).heap[w.heap.size]? = some (.cells #[.int .i64 0] 24 (0, 0)) :=
    (Below.heap_alloc _ _ _ (by simp)).trans (heap_alloc_new w _)
  refine (att_at d w _ (w.heap.size + 1 + 1) (by simp) (((Grown.refl w).alloc _ _).alloc _ _)).mono ?_
  rintro e w1 ⟨rfl, c1, -, k1, g1⟩
  have r1 := (k1 (w.heap.size + 1) (by omega)).trans r0
  have b1 := (k1 w.heap.size (by omega)).trans b0
  clear r0 b0 k1
  go_wp2_with fail
  refine (opt_at _ _ d w w1 _ _ _ _ c1 r1 (by omega) g1).mono ?_
  rintro e w2 ⟨rfl, r2, -, k2, g2⟩
  have b2 := (k2 w.heap.size (by omega)).trans b1
  have n2 : w2.cell? ⟨w.heap.size, 0, none⟩ = some (.int .i64 0) := by rw [cell_of_row w2 _ 0 _ 24 (0, 0) b2]; rfl
  obtain ⟨f0, f1, f2, f3, f4, f5⟩ := r2.cells
  clear c1 r1 b1 k2 g1 b2 r2
  go_wp2_with fail
  go_quiet ((go_at_call 6; exact Calls.quiet_of_same (clamp_any _ _)))
  go_wp2
  go_ret
  exact ⟨by simp, g2⟩
end Go.Proofs.Ybulkdbtw.lawS5157CSets
