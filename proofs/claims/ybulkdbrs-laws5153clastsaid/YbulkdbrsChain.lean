/- b5153a: lachesis.zzs5153cchain (function 5) by its contract. -/
import Derived.Test.YbulkdbrsRows
import Derived.WalkKit
import Derived.ProofKit
import Derived.WalkSpells
import Derived.Laws.Pointers
namespace Go.Proofs.Ybulkdbrs
open Go.RowKit

/-- What lies at the pointer to the last parent, when j parents have been laid. -/
def Last (w : World) (B j : Nat) (ss : Nat → ByteArray) (po : Option Addr) : Prop :=
  (j = 0 ∧ po = none) ∨ (0 < j ∧ ∃ Q, po = some ⟨Q, 0, none⟩ ∧ B ≤ Q ∧ Q < w.heap.size ∧ w.cell? ⟨Q, 1, none⟩ = some (.string (ss (j - 1))))

theorem Last.alloc {w : World} {B j : Nat} {ss : Nat → ByteArray} {po : Option Addr} (h : Last w B j ss po) (o : Obj) : Last (w.alloc o) B j ss po := by
  rcases h with h | ⟨h0, Q, h1, h2, h3, h4⟩
  · exact .inl h
  · exact .inr ⟨h0, Q, h1, h2, by simp; omega, (World.cell?_alloc_lt _ _ _ (by exact h3)).trans h4⟩

set_option maxHeartbeats 400000 in
theorem chain_row (b off n cap : Nat) (ss : Nat → ByteArray) (name : ByteArray) (w : World) (hn : n ≤ 1024) (hb : b < w.heap.size) (hc : ∀ i, i < n → w.cell? ⟨b, off + i, none⟩ = some (.string (ss i))) :
    Calls Yba.prog 5 #[.slice (some ⟨b, off, none⟩) n cap, .string name] w fun e w' => ∃ R po, e = .returned (.pointer (some ⟨R, 0, none⟩)) ∧ w'.cell? ⟨R, 0, none⟩ = some (.pointer po) ∧ w'.cell? ⟨R, 1, none⟩ = some (.string name) ∧ Last w' w.heap.size n ss po ∧ R < w'.heap.size ∧ Below w.heap.size w w' := by
  go_enter Yba.func5, Yba.ntmps5
  go_wp2
  go_loopw [5, 6] (fun p i wr => ∃ (j : Nat) (po : Option Addr), j ≤ n ∧ i = .int .i64 j ∧ p = .pointer po ∧ Last wr w.heap.size j ss po ∧ Below w.heap.size w wr) (fun _ i _ => n - (intOf i).toNat)
  case atStart => exact ⟨0, none, Nat.zero_le _, rfl, rfl, .inl ⟨rfl, rfl⟩, Below.refl _ _⟩
  case round =>
    obtain ⟨j, po, hj, rfl, rfl, hL, hnx⟩ := hrel
    by_cases hlt : j < n
    · have hcx := (hnx.cell (p := ⟨b, off + j, none⟩) hb).trans (hc j hlt)
      go_wp2
      go_roundw
      case rel => exact ⟨j + 1, _, by omega, by go_num, rfl, .inr ⟨by omega, wr.heap.size, rfl, hnx.size, by simp, by simp⟩, hnx.alloc hnx.size _⟩
      case measure => simp [intOf]; omega
    · obtain rfl : j = n := by omega
      go_wp2
      go_ret
      exact ⟨wr.heap.size, po, rfl, by simp, by simp, hL.alloc _, by simp, hnx.alloc hnx.size _⟩
set_option maxHeartbeats 400000 in
theorem chain_zero (ao : Option Addr) (n cap : Nat) (ss : Nat → ByteArray) (name : ByteArray) (w : World) (hn : n ≤ 1024) (H0 : Hid (n = 0)) :
    Calls Yba.prog 5 #[.slice ao n cap, .string name] w fun e w' => ∃ R po, e = .returned (.pointer (some ⟨R, 0, none⟩)) ∧ w'.cell? ⟨R, 0, none⟩ = some (.pointer po) ∧ w'.cell? ⟨R, 1, none⟩ = some (.string name) ∧ Last w' w.heap.size n ss po ∧ R < w'.heap.size ∧ Below w.heap.size w w' := by
  go_enter Yba.func5, Yba.ntmps5
  go_wp2
  go_loopw [5, 6] (fun p i wr => ∃ (j : Nat) (po : Option Addr), j ≤ n ∧ i = .int .i64 j ∧ p = .pointer po ∧ Last wr w.heap.size j ss po ∧ Below w.heap.size w wr) (fun _ i _ => n - (intOf i).toNat)
  case atStart => exact ⟨0, none, Nat.zero_le _, rfl, rfl, .inl ⟨rfl, rfl⟩, Below.refl _ _⟩
  case round =>
    obtain ⟨j, po, hj, rfl, rfl, hL, hnx⟩ := hrel
    by_cases hlt : j < n
    · exact absurd H0.out (by omega)
    · obtain rfl : j = n := by omega
      go_wp2
      go_ret
      exact ⟨wr.heap.size, po, rfl, by simp, by simp, hL.alloc _, by simp, hnx.alloc hnx.size _⟩
end Go.Proofs.Ybulkdbrs
