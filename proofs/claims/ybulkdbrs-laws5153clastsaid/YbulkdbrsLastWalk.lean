/- b5153a: lachesis.LawS5153CLast (function 3): the walk. -/
import Derived.Test.YbulkdbrsChain
import Derived.Deep.QuietTactic
import Derived.BigQuiet
import Derived.WalkSmall
namespace Go.Proofs.Ybulkdbrs.lawS5153CLast
open Go.RowKit

set_option maxHeartbeats 800000 in
theorem walk_row (b off n cap : Nat) (ss : Nat → ByteArray) (name : ByteArray) (ty l c : Int) (w : World) (hn : n ≤ 1024) (hp : 0 < n) (hb : b < w.heap.size) (hc : ∀ i, i < n → w.cell? ⟨b, off + i, none⟩ = some (.string (ss i))) :
    Calls Yba.prog 3 #[.slice (some ⟨b, off, none⟩) n cap, .string name, .int .u8 ty, .int .i64 l, .int .i64 c] w fun e w' => e = .returned (.bool true) ∧ Below w.heap.size w w' := by
  have d0 : decide ((1024 : Int) < (n : Int)) = false := decide_eq_false (by omega)
  have d1 : (0 : Int) < (n : Int) := by omega
  go_enter Yba.func3, Yba.ntmps3
  go_wp2_with fail
  refine (chain_row b off n cap ss name w hn hb hc).mono ?_
  rintro e w1 ⟨R, po, rfl, c0, c1, hL, hR, hb1⟩
  rcases hL with ⟨h0, _⟩ | ⟨_, Q, hpo, hQ1, hQ2, hQ3⟩
  · exact absurd h0 (by omega)
  rw [hpo] at c0
  have hx : w1.cell? ⟨b, off + (n - 1), none⟩ = some (.string (ss (n - 1))) := (hb1.cell (p := ⟨b, off + (n - 1), none⟩) hb).trans (hc (n - 1) (by omega))
  have hbn : b < w1.heap.size := by have := hb1.size; omega
  clear hc hpo
  generalize ss (n - 1) = sl at *
  have d2 : (0 : Int) ≤ (n : Int) - 1 := by omega
  have d3 : (n : Int) - 1 < (n : Int) := by omega
  go_wp2
  go_quiet (fail)
  go_wp2
  go_ret
  exact ⟨rfl, below_drewN ((hb1.alloc hb1.size _).alloc (by simp; have := hb1.size; omega) _) _⟩

set_option maxHeartbeats 800000 in
theorem walk_zero (ao : Option Addr) (n cap : Nat) (ss : Nat → ByteArray) (name : ByteArray) (ty l c : Int) (w : World) (hn : n = 0) :
    Calls Yba.prog 3 #[.slice ao n cap, .string name, .int .u8 ty, .int .i64 l, .int .i64 c] w fun e w' => e = .returned (.bool true) ∧ Below w.heap.size w w' := by
  have d0 : decide ((1024 : Int) < (n : Int)) = false := decide_eq_false (by omega)
  have d1 : ¬ 0 < n := by omega
  have H0 : Hid (n = 0) := hn
  clear hn
  go_enter Yba.func3, Yba.ntmps3
  go_wp2_with fail
  refine (chain_zero ao n cap ss name w (by rw [H0.out]; omega) H0).mono ?_
  rintro e w1 ⟨R, po, rfl, c0, c1, hL, hR, hb1⟩
  clear hL
  go_wp2
  go_ret
  exact ⟨rfl, (hb1.alloc hb1.size _).alloc (by simp; have := hb1.size; omega) _⟩
end Go.Proofs.Ybulkdbrs.lawS5153CLast
