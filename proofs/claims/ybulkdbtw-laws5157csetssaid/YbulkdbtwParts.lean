/- b5157a: what the two laws share. -/
import Derived.Test.YbulkdbtwRows
import Derived.WalkKit
import Derived.ProofKit
import Derived.OpenShut
import Derived.ShutString
import Derived.WalkSpells
import Derived.WalkLawsBesides
import Derived.Laws.Pointers
import Derived.Laws.EntriesVeiled
import Derived.Deep.QuietTactic
import Derived.BigQuiet
namespace Go.Proofs.Ybulkdbtw
open Go.RowKit

/-- The greater of the number and nought. -/
def clamp (d : Int) : Int := if d < 0 then 0 else d

theorem clamp_any (d : Int) (w : World) : Calls Yba.prog 6 #[.int .i64 d] w fun e w' => e = .returned (.int .i64 (clamp d)) ∧ w' = w := by
  by_cases h : d < 0
  · go_enter Yba.func6, Yba.ntmps6
    go_wp2
    go_ret
    exact ⟨by rw [clamp, if_pos (by omega)]; rfl, rfl⟩
  · go_enter Yba.func6, Yba.ntmps6
    go_wp2
    go_ret
    exact ⟨by rw [clamp, if_neg (by omega)]; rfl, rfl⟩

theorem att_any (d : Int) (w : World) : Calls Yba.prog 5 #[.int .i64 d] w fun e w' => e = .returned (.func (Fn.func 7) #[] #[.pointer (some ⟨w.heap.size, 0, none⟩)]) ∧ w' = w.alloc (.cells #[.int .i64 d] 26) := by
  have hmf : ∀ (fn : Fn) (first cap : Array Value) (w : World), (Instr.makeFunc fn first cap).run Yba.prog w = .ok (.func fn first cap) w := fun _ _ _ _ => rfl
  go_enter Yba.func5, Yba.ntmps5
  go_wp2
  go_ret
  exact ⟨rfl, rfl⟩

theorem opt_any (T C : Nat) (d : Int) (v : Int) (w : World) (hd : w.cell? ⟨C, 0, none⟩ = some (.int .i64 d)) (hT : w.cell? ⟨T, 3, none⟩ = some (.int .i64 v)) (hf : w.frozen? ⟨T, 3, none⟩ = false) :
    Calls Yba.prog 7 #[.pointer (some ⟨T, 0, none⟩), .pointer (some ⟨C, 0, none⟩)] w fun e w' => e = .returned (.tuple #[]) ∧ w' = w.setCell ⟨T, 3, none⟩ (.int .i64 (clamp d)) := by
  by_cases h : d < 0
  · have e : clamp d = 0 := by unfold clamp; split <;> omega
    rw [e]
    clear e
    go_enter Yba.func7, Yba.ntmps7
    go_wp2
    go_end0
    exact ⟨rfl, rfl⟩
  · have e : clamp d = d := by unfold clamp; split <;> omega
    rw [e]
    clear e
    go_enter Yba.func7, Yba.ntmps7
    go_wp2
    go_end0
    exact ⟨rfl, rfl⟩

/-- The Retrier in block R. -/
def Ret (w : World) (R : Nat) (b : Value) (mr me t : Int) : Prop := w.heap[R]? = some (.cells #[b, .int .i64 mr, .int .i64 me, .int .i64 t, .nilFunc, .nilFunc] 32 (0, 0))

section
variable {w : World} {R : Nat} {b : Value} {mr me t : Int}
theorem Ret.lt (h : Ret w R b mr me t) : R < w.heap.size := (Array.getElem?_eq_some_iff.1 h).1
theorem Ret.cells (h : Ret w R b mr me t) : w.cell? ⟨R, 0, none⟩ = some b ∧ w.cell? ⟨R, 1, none⟩ = some (.int .i64 mr) ∧ w.cell? ⟨R, 2, none⟩ = some (.int .i64 me) ∧ w.cell? ⟨R, 3, none⟩ = some (.int .i64 t) ∧ w.cell? ⟨R, 4, none⟩ = some .nilFunc ∧ w.cell? ⟨R, 5, none⟩ = some .nilFunc := by
  refine ⟨?_, ?_, ?_, ?_, ?_, ?_⟩ <;> (rw [cell_of_row w R _ _ 32 (0, 0) h]; rfl)
theorem Ret.frozen (h : Ret w R b mr me t) : w.frozen? ⟨R, 3, none⟩ = false := by
  unfold Ret at h
  simp [World.frozen?, h]
theorem Ret.set (h : Ret w R b mr me t) (t' : Int) : Ret (w.setCell ⟨R, 3, none⟩ (.int .i64 t')) R b mr me t' := by
  unfold Ret at h ⊢
  simp only [World.setCell, Array.getElem?_modify, h]
  simp
theorem Ret.alloc (h : Ret w R b mr me t) (o : Obj) : Ret (w.alloc o) R b mr me t := (Below.heap_alloc _ _ _ h.lt).trans h
end

/-- AttemptTimeout(d), the world a letter. -/
theorem att_at (d : Int) (W w : World) (H : Nat) (hH : w.heap.size = H) (hg : Grown W w) : Calls Yba.prog 5 #[.int .i64 d] w fun e w' => e = .returned (.func (Fn.func 7) #[] #[.pointer (some ⟨H, 0, none⟩)]) ∧ w'.heap[H]? = some (.cells #[.int .i64 d] 26 (0, 0)) ∧
    w'.heap.size = H + 1 ∧ (∀ k, k < H → w'.heap[k]? = w.heap[k]?) ∧ Grown W w' := by
  subst hH
  refine (att_any d w).mono ?_
  rintro e w' ⟨he, rfl⟩
  exact ⟨he, heap_alloc_new w _, by simp, fun k hk => Below.heap_alloc _ _ _ hk, hg.alloc _ _⟩

/-- The option called on a Retrier. -/
theorem opt_at (T C : Nat) (d : Int) (W w : World) (b : Value) (mr me t : Int) (hC : w.heap[C]? = some (.cells #[.int .i64 d] 26 (0, 0))) (hT : Ret w T b mr me t) (lo : W.heap.size ≤ T) (hg : Grown W w) :
    Calls Yba.prog 7 #[.pointer (some ⟨T, 0, none⟩), .pointer (some ⟨C, 0, none⟩)] w fun e w' => e = .returned (.tuple #[]) ∧ Ret w' T b mr me (clamp d) ∧ w'.heap.size = w.heap.size ∧ (∀ k, k ≠ T → w'.heap[k]? = w.heap[k]?) ∧ Grown W w' := by
  refine (opt_any T C d t w (by rw [cell_of_row w C 0 _ 26 (0, 0) hC]; rfl) hT.cells.2.2.2.1 hT.frozen).mono ?_
  rintro e w' ⟨he, rfl⟩
  exact ⟨he, hT.set _, by simp [World.setCell], fun k hk => Below.heap_setCell _ _ _ _ hk, hg.setCell (by exact lo) _⟩
end Go.Proofs.Ybulkdbtw
