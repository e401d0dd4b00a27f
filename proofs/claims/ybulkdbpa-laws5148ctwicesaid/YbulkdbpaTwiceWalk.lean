/- b5148a: overlay.LawS5148CTwice (function 5): the walk. -/
import Derived.Test.YbulkdbpaCLaws
import Derived.Deep.QuietTactic
import Derived.BigQuiet
import Derived.WalkSmall
namespace Go.Proofs.Ybulkdbpa.lawS5148CTwice
open Go.RowKit

set_option maxHeartbeats 1000000 in
theorem walk_main (k1 s1 k2 s2 : ByteArray) (h1 : k1.size ≤ 4096) (h2 : s1.size ≤ 4096) (h3 : k2.size ≤ 4096) (h4 : s2.size ≤ 4096) (w : World) :
    Calls Yba.prog 5 #[.string k1, .string s1, .string k2, .string s2] w fun e w' => e = .returned (.bool true) ∧ Below w.heap.size w w' := by
  obtain ⟨N1, hN1⟩ : ∃ N1, 0 + k1.size + s1.size + 6 = N1 := ⟨_, rfl⟩
  obtain ⟨N, hN⟩ : ∃ N, N1 + k2.size + s2.size + 6 = N := ⟨_, rfl⟩
  have b1 : N1 ≤ 9000 := by omega
  have b2 : N ≤ 18000 := by omega
  have HN1 : Hid (0 + k1.size + s1.size + 6 = N1) := hN1
  have HN : Hid (N1 + k2.size + s2.size + 6 = N) := hN
  clear hN1 hN
  have d1 : decide ((4096 : Int) < (k1.size : Int)) = false := decide_eq_false (by omega)
  have d2 : decide ((4096 : Int) < (s1.size : Int)) = false := decide_eq_false (by omega)
  have d3 : decide ((4096 : Int) < (k2.size : Int)) = false := decide_eq_false (by omega)
  have d4 : decide ((4096 : Int) < (s2.size : Int)) = false := decide_eq_false (by omega)
  go_enter Yba.func5, Yba.ntmps5
  go_wp2_with fail
  have hL0 : Lin (.pointer none) (.pointer none) (.pointer none) (.int .u64 0) (.slice none 0 0) .nilIface w.heap.size w.heap.size (w.alloc (.cells #[.pointer none, .pointer none, .pointer none, .int .u64 0, .slice none 0 0, .slice none 0 0, .nilIface] 47)) (.slice none 0 0) 0 (([] : List Int).map u8) :=
    ⟨heap_alloc_new w _, World.ownsRow_nil _ _ _ _, by simp, Nat.le_refl _⟩
  refine (text_at _ _ _ _ _ _ w.heap.size w.heap.size _ _ 0 [] k1 s1 N1 (fldI k1 s1) HN1.out rfl hL0 (by omega) h1 h2).mono ?_
  rintro e w1 ⟨rfl, g1, cap1, hL1, hb1⟩
  have hbW1 : Below w.heap.size w w1 := ((Below.refl _ _).alloc (Nat.le_refl _) _).trans hb1
  clear hL0 hb1
  go_wp2_with fail
  refine (text_at _ _ _ _ _ _ w.heap.size w.heap.size _ _ N1 (fldI k1 s1) k2 s2 N (fldI k1 s1 ++ fldI k2 s2) HN.out rfl hL1 (by omega) h3 h4).mono ?_
  rintro e w2 ⟨rfl, g2, cap2, hL2, hb2⟩
  have hbW2 : Below w.heap.size w w2 := hbW1.trans hb2
  clear hL1 hb2 hbW1
  go_wp2_with fail
  refine (expect_at none 0 0 0 0 [] k1 s1 w2 N1 w2.heap.size (fldI k1 s1) HN1.out rfl rfl rfl (by omega) h1 h2 (fun h => absurd h (by omega)) (fun j h => absurd h (by omega))).mono ?_
  rintro e w3 ⟨rfl, hz3, hc3, hb3⟩
  go_wp2_with fail
  refine (expect_at (some ⟨w2.heap.size, 0, none⟩) w2.heap.size 0 N1 N1 (fldI k1 s1) k2 s2 w3 N w3.heap.size (fldI k1 s1 ++ fldI k2 s2) HN.out rfl rfl (by rw [fldI_length]; have := HN1.out; omega) (by omega) h3 h4 (fun h => ⟨rfl, hz3⟩) (fun j h => by rw [Nat.zero_add]; exact hc3 j h)).mono ?_
  rintro e w4 ⟨rfl, hz4, hc4, hb4⟩
  have hbW4 : Below w.heap.size w w4 := (hbW2.trans (hb3.mono hbW2.size)).trans (hb4.mono (Nat.le_trans hbW2.size hb3.size))
  have hT2 := hL2.trc
  have hT4 : Trc (.pointer none) (.pointer none) (.pointer none) (.int .u64 0) (.slice none 0 0) .nilIface w.heap.size w4 (.slice (some ⟨g2, 0, none⟩) N cap2) :=
    (hT2.of_block (hb3.block _ hT2.lt)).of_block (hb4.block _ (Nat.lt_of_lt_of_le hT2.lt hb3.size))
  have hline := hT4.cell
  have herr := hT4.cells.2.2.2.2.2
  have hg2 := (hL2.own.lt g2 rfl).2
  obtain ⟨L, hLe⟩ : ∃ L, L = fldI k1 s1 ++ fldI k2 s2 := ⟨_, rfl⟩
  have hx4 : ∀ j, j < N → w4.cell? ⟨g2, j, none⟩ = some (u8 (L.getD j 0)) := fun j hj => by
    rw [hb4.cell (p := ⟨g2, j, none⟩) (Nat.lt_of_lt_of_le hg2 hb3.size), hb3.cell (p := ⟨g2, j, none⟩) hg2, hLe]
    exact own_cells hL2.own j hj
  have hy4 : ∀ j, j < N → w4.cell? ⟨w3.heap.size, j, none⟩ = some (u8 (L.getD j 0)) := by rw [hLe]; exact hc4
  clear hc4 hc3 hb3 hb4 hL2 hT2 hT4 hLe hz3 hbW2
  generalize w3.heap.size = h3s at *
  go_wp2_with fail
  go_loopw [11] (fun i wr => ∃ j : Nat, j ≤ N ∧ i = .int .i64 j ∧ ∃ q, wr = w4.drewN q) (fun i _ => N - (intOf i).toNat)
  case atStart => exact ⟨0, Nat.zero_le _, rfl, 0, rfl⟩
  case round =>
    obtain ⟨j, hj, rfl, q, rfl⟩ := hrel
    by_cases hlt : j < N
    · obtain ⟨z, hz⟩ : ∃ z, z = L.getD j 0 := ⟨_, rfl⟩
      have hx := hx4 j hlt
      have hy := hy4 j hlt
      rw [← hz] at hx hy
      clear hx4 hy4 hz
      have i0 : (0 : Int) ≤ (j : Int) := by omega
      have i1 : (j : Int) < (N : Int) := by omega
      go_wp2
      go_quiet (fail)
      go_wp2
      go_roundw
      case rel => exact ⟨j + 1, by omega, by go_num, _, rfl⟩
      case measure => simp [intOf]; omega
    · go_wp2
      go_ret
      exact ⟨rfl, below_drewN hbW4 _⟩

set_option maxHeartbeats 400000 in
theorem walk (k1 s1 k2 s2 : ByteArray) (w : World) :
    Calls Yba.prog 5 #[.string k1, .string s1, .string k2, .string s2] w fun e w' => e = .returned (.bool true) ∧ Below w.heap.size w w' := by
  by_cases h1 : (4096 : Int) < (k1.size : Int)
  · go_enter Yba.func5, Yba.ntmps5
    go_wp2
    go_ret
    exact ⟨rfl, Below.refl _ _⟩
  by_cases h2 : (4096 : Int) < (s1.size : Int)
  · go_enter Yba.func5, Yba.ntmps5
    go_wp2
    go_ret
    exact ⟨rfl, Below.refl _ _⟩
  by_cases h3 : (4096 : Int) < (k2.size : Int)
  · go_enter Yba.func5, Yba.ntmps5
    go_wp2
    go_ret
    exact ⟨rfl, Below.refl _ _⟩
  by_cases h4 : (4096 : Int) < (s2.size : Int)
  · go_enter Yba.func5, Yba.ntmps5
    go_wp2
    go_ret
    exact ⟨rfl, Below.refl _ _⟩
  exact walk_main k1 s1 k2 s2 (by omega) (by omega) (by omega) (by omega) w
end Go.Proofs.Ybulkdbpa.lawS5148CTwice
