/- b5148a: overlay.zzs5148cexpect (function 8) by its contract. -/
import Derived.Test.YbulkdbpaCParts
namespace Go.Proofs.Ybulkdbpa
open Go.RowKit
open Go.Lib (strCells)

set_option maxHeartbeats 1600000 in
set_option maxRecDepth 100000 in
/-- The prefix a row of bytes (its address written out). -/
theorem expect_row (b off len cap : Nat) (xs : List Int) (k s : ByteArray) (w : World) (hlen : xs.length = len) (hl : len ≤ 20000) (hk : k.size ≤ 4096) (hs : s.size ≤ 4096) (hb : b < w.heap.size)
    (hc : ∀ j, j < len → w.cell? ⟨b, off + j, none⟩ = some (.int .u8 (xs.getD j 0))) :
    Calls Yba.prog 8 #[.slice (some ⟨b, off, none⟩) len cap, .string k, .string s] w fun e w' =>
      e = .returned (.slice (some ⟨w.heap.size, 0, none⟩) (len + k.size + s.size + 6) (len + k.size + s.size + 6)) ∧
      w'.ownsRow w.heap.size 5 1 (.slice (some ⟨w.heap.size, 0, none⟩) (len + k.size + s.size + 6) (len + k.size + s.size + 6)) (len + k.size + s.size + 6) (xs.map u8 ++ fld k s) ∧ Below w.heap.size w w' := by
  obtain ⟨i0, hi, hz0, hz1, hz2⟩ := info_parts info5
  go_enter Yba.func8, Yba.ntmps8
  go_wp2_with (at_make; refine wpList_make_own _ rfl _ _ 37 rfl w.heap.size 5 i0 (.int .u8 0) 1 Yba.underlying37 hi hz0 hz1 _ _ _ (len + k.size + s.size + 6) rfl rfl (by omega) ?b2 ?b3 (Nat.le_refl _) ?_)
  case b2 => rw [hz2]; omega
  case b3 => unfold maxLen; omega
  intro w0 hown0 hgrow0
  go_wp2
  go_loopw [7, 8] (fun v i wr => ∃ j : Nat, j ≤ len ∧ i = .int .i64 j ∧ v = .slice (some ⟨w.heap.size, 0, none⟩) j (len + k.size + s.size + 6) ∧
      wr.ownsRow w.heap.size 5 1 (.slice (some ⟨w.heap.size, 0, none⟩) j (len + k.size + s.size + 6)) j ((xs.take j).map u8) ∧ Below w.heap.size w wr)
    (fun _ i _ => len - (intOf i).toNat)
  case atStart => exact ⟨0, Nat.zero_le _, rfl, rfl, hown0, (Below.refl _ _).grown hgrow0 (Nat.le_refl _) (fun k h => by cases h)⟩
  case round =>
    obtain ⟨j, hj, rfl, rfl, hown, hnx⟩ := hrel
    by_cases hlt : j < len
    · obtain ⟨z, hz⟩ : ∃ z, z = xs.getD j 0 := ⟨_, rfl⟩
      have hcx : wr.cell? ⟨b, off + j, none⟩ = some (.int .u8 z) := by rw [hz]; exact (hnx.cell (by exact hb)).trans (hc j hlt)
      have Hz : Hid (z = xs.getD j 0) := hz
      clear hz
      go_wp2_with (at_builtin; refine wpList_append_fits _ rfl _ _ 37 rfl w.heap.size 5 i0 1 Yba.underlying37 hi hz1 w.heap.size j (len + k.size + s.size + 6) _ rfl (hown.alloc _) ⟨wr.heap.size, 0, none⟩ 1 1 [u8 z] rfl rfl (cell_one_new _ _ _) (u8s_oneCell [z]) (by omega) ?_; intro w1 hown1 hgrow1)
      go_roundw
      case rel => exact ⟨j + 1, by omega, by go_num, rfl, by rw [take_u8_succ xs j (by omega), ← Hz.out]; exact hown1, (hnx.alloc hnx.size _).grown hgrow1 (by simp; have := hnx.size; omega) (fun k hk => by cases hk; exact Nat.le_refl _)⟩
      case measure => simp [intOf]; omega
    · obtain rfl : j = len := by omega
      have hown' : wr.ownsRow w.heap.size 5 1 (.slice (some ⟨w.heap.size, 0, none⟩) j (j + k.size + s.size + 6)) j (xs.map u8) := by
        rw [List.take_of_length_le (by omega)] at hown; exact hown
      clear hown hown0 hgrow0
      go_wp2_with (at_builtin; refine wpList_append_fits _ rfl (.tmp 34) (.tmp 35) 37 rfl w.heap.size 5 i0 1 Yba.underlying37 hi hz1 w.heap.size j (j + k.size + s.size + 6) _ rfl (hown'.alloc _) ⟨wr.heap.size, 0, none⟩ 2 2 [u8 44, u8 34] rfl rfl (cells_two_new _ _ _ _) (u8s_oneCell [44, 34]) (by omega) ?_; intro w1 hown1 hgrow1)
      have hnx1 : Below w.heap.size w w1 := (hnx.alloc hnx.size _).grown hgrow1 (by simp; have := hnx.size; omega) (fun k hk => by cases hk; exact Nat.le_refl _)
      clear hnx hgrow1 hown'
      go_loopw [7, 9] (fun v i wr => ∃ m : Nat, m ≤ k.size ∧ i = .int .i64 m ∧ v = .slice (some ⟨w.heap.size, 0, none⟩) (j + 2 + m) (j + k.size + s.size + 6) ∧
          wr.ownsRow w.heap.size 5 1 (.slice (some ⟨w.heap.size, 0, none⟩) (j + 2 + m) (j + k.size + s.size + 6)) (j + 2 + m) (xs.map u8 ++ [u8 44, u8 34] ++ (strCells k).take m) ∧ Below w.heap.size w wr)
        (fun _ i _ => k.size - (intOf i).toNat)
      case atStart => exact ⟨0, Nat.zero_le _, rfl, rfl, by simpa using hown1, hnx1⟩
      case round =>
        clear hown1 hnx1
        obtain ⟨m, hm, rfl, rfl, hown, hnx⟩ := hrel
        by_cases hlt : m < k.size
        · go_wp2_with (at_builtin; refine wpList_append_fits _ rfl (.tmp 43) (.tmp 47) 37 rfl w.heap.size 5 i0 1 Yba.underlying37 hi hz1 w.heap.size (j + 2 + m) (j + k.size + s.size + 6) _ rfl (hown.alloc _) ⟨_, 0, none⟩ 1 1 [u8 (k[m]).toNat] rfl rfl (cell_one_new _ _ _) (u8s_oneCell [((k[m]).toNat : Int)]) (by omega) ?_; intro w2 hown2 hgrow2)
          go_roundw
          case rel => exact ⟨m + 1, by omega, by go_num, rfl, by rw [strCells_take_succ k m hlt, ← List.append_assoc]; exact hown2, (hnx.alloc hnx.size _).grown hgrow2 (by simp; have := hnx.size; omega) (fun k hk => by cases hk; exact Nat.le_refl _)⟩
          case measure => simp [intOf]; omega
        · obtain rfl : m = k.size := by omega
          rw [strCells_take_all] at hown
          go_wp2_with (at_builtin; refine wpList_append_fits _ rfl (.tmp 49) (.tmp 50) 37 rfl w.heap.size 5 i0 1 Yba.underlying37 hi hz1 w.heap.size (j + 2 + k.size) (j + k.size + s.size + 6) _ rfl (hown.alloc _) ⟨_, 0, none⟩ 3 3 [u8 34, u8 58, u8 34] rfl rfl (cells_three_new _ _ _ _ _) (u8s_oneCell [34, 58, 34]) (by omega) ?_; intro w2 hown2 hgrow2)
          have hnx2 : Below w.heap.size w w2 := (hnx.alloc hnx.size _).grown hgrow2 (by simp; have := hnx.size; omega) (fun k hk => by cases hk; exact Nat.le_refl _)
          clear hnx hgrow2 hown
          go_loopw [7, 10] (fun v i wr => ∃ m : Nat, m ≤ s.size ∧ i = .int .i64 m ∧ v = .slice (some ⟨w.heap.size, 0, none⟩) (j + 2 + k.size + 3 + m) (j + k.size + s.size + 6) ∧
              wr.ownsRow w.heap.size 5 1 (.slice (some ⟨w.heap.size, 0, none⟩) (j + 2 + k.size + 3 + m) (j + k.size + s.size + 6)) (j + 2 + k.size + 3 + m) (xs.map u8 ++ [u8 44, u8 34] ++ strCells k ++ [u8 34, u8 58, u8 34] ++ (strCells s).take m) ∧ Below w.heap.size w wr)
            (fun _ i _ => s.size - (intOf i).toNat)
          case atStart => exact ⟨0, Nat.zero_le _, rfl, rfl, by simpa using hown2, hnx2⟩
          case round =>
            clear hown2 hnx2
            obtain ⟨m, hm, rfl, rfl, hown, hnx⟩ := hrel
            by_cases hlt : m < s.size
            · go_wp2_with (at_builtin; refine wpList_append_fits _ rfl (.tmp 58) (.tmp 62) 37 rfl w.heap.size 5 i0 1 Yba.underlying37 hi hz1 w.heap.size (j + 2 + k.size + 3 + m) (j + k.size + s.size + 6) _ rfl (hown.alloc _) ⟨_, 0, none⟩ 1 1 [u8 (s[m]).toNat] rfl rfl (cell_one_new _ _ _) (u8s_oneCell [((s[m]).toNat : Int)]) (by omega) ?_; intro w2 hown2 hgrow2)
              go_roundw
              case rel => exact ⟨m + 1, by omega, by go_num, rfl, by rw [strCells_take_succ s m hlt, ← List.append_assoc]; exact hown2, (hnx.alloc hnx.size _).grown hgrow2 (by simp; have := hnx.size; omega) (fun k hk => by cases hk; exact Nat.le_refl _)⟩
              case measure => simp [intOf]; omega
            · obtain rfl : m = s.size := by omega
              rw [strCells_take_all] at hown
              go_wp2_with (at_builtin; refine wpList_append_fits _ rfl (.tmp 64) (.tmp 65) 37 rfl w.heap.size 5 i0 1 Yba.underlying37 hi hz1 w.heap.size (j + 2 + k.size + 3 + s.size) (j + k.size + s.size + 6) _ rfl (hown.alloc _) ⟨_, 0, none⟩ 1 1 [u8 34] rfl rfl (cell_one_new _ _ _) (u8s_oneCell [34]) (by omega) ?_; intro w2 hown2 hgrow2)
              have e1 : j + 2 + k.size + 3 + s.size + 1 = j + k.size + s.size + 6 := by omega
              rw [e1] at hown2
              go_ret
              refine ⟨?_, ?_, (hnx.alloc hnx.size _).grown hgrow2 (by simp; have := hnx.size; omega) (fun k hk => by cases hk; exact Nat.le_refl _)⟩
              · show Ending.returned (.slice _ (j + 2 + k.size + 3 + s.size + 1) _) = _
                rw [e1]
              · have e2 : List.map u8 xs ++ fld k s = List.map u8 xs ++ [u8 44, u8 34] ++ strCells k ++ [u8 34, u8 58, u8 34] ++ strCells s ++ [u8 34] := by simp [fld]
                rw [e2]; exact hown2

set_option maxHeartbeats 1600000 in
set_option maxRecDepth 100000 in
/-- The prefix of no bytes, whatever its address (nil too). -/
theorem expect_zero (ao : Option Addr) (len cap : Nat) (xs : List Int) (k s : ByteArray) (w : World) (hlen : xs.length = len) (H0 : Hid (len = 0)) (hl : len ≤ 20000) (hk : k.size ≤ 4096) (hs : s.size ≤ 4096) :
    Calls Yba.prog 8 #[.slice ao len cap, .string k, .string s] w fun e w' =>
      e = .returned (.slice (some ⟨w.heap.size, 0, none⟩) (len + k.size + s.size + 6) (len + k.size + s.size + 6)) ∧
      w'.ownsRow w.heap.size 5 1 (.slice (some ⟨w.heap.size, 0, none⟩) (len + k.size + s.size + 6) (len + k.size + s.size + 6)) (len + k.size + s.size + 6) (xs.map u8 ++ fld k s) ∧ Below w.heap.size w w' := by
  obtain ⟨i0, hi, hz0, hz1, hz2⟩ := info_parts info5
  go_enter Yba.func8, Yba.ntmps8
  go_wp2_with (at_make; refine wpList_make_own _ rfl _ _ 37 rfl w.heap.size 5 i0 (.int .u8 0) 1 Yba.underlying37 hi hz0 hz1 _ _ _ (len + k.size + s.size + 6) rfl rfl (by omega) ?b2 ?b3 (Nat.le_refl _) ?_)
  case b2 => rw [hz2]; omega
  case b3 => unfold maxLen; omega
  intro w0 hown0 hgrow0
  go_wp2
  go_loopw [7, 8] (fun v i wr => ∃ j : Nat, j ≤ len ∧ i = .int .i64 j ∧ v = .slice (some ⟨w.heap.size, 0, none⟩) j (len + k.size + s.size + 6) ∧
      wr.ownsRow w.heap.size 5 1 (.slice (some ⟨w.heap.size, 0, none⟩) j (len + k.size + s.size + 6)) j ((xs.take j).map u8) ∧ Below w.heap.size w wr)
    (fun _ i _ => len - (intOf i).toNat)
  case atStart => exact ⟨0, Nat.zero_le _, rfl, rfl, hown0, (Below.refl _ _).grown hgrow0 (Nat.le_refl _) (fun k h => by cases h)⟩
  case round =>
    obtain ⟨j, hj, rfl, rfl, hown, hnx⟩ := hrel
    by_cases hlt : j < len
    · exact absurd H0.out (by omega)
    · obtain rfl : j = len := by omega
      have hown' : wr.ownsRow w.heap.size 5 1 (.slice (some ⟨w.heap.size, 0, none⟩) j (j + k.size + s.size + 6)) j (xs.map u8) := by
        rw [List.take_of_length_le (by omega)] at hown; exact hown
      clear hown hown0 hgrow0
      go_wp2_with (at_builtin; refine wpList_append_fits _ rfl (.tmp 34) (.tmp 35) 37 rfl w.heap.size 5 i0 1 Yba.underlying37 hi hz1 w.heap.size j (j + k.size + s.size + 6) _ rfl (hown'.alloc _) ⟨wr.heap.size, 0, none⟩ 2 2 [u8 44, u8 34] rfl rfl (cells_two_new _ _ _ _) (u8s_oneCell [44, 34]) (by omega) ?_; intro w1 hown1 hgrow1)
      have hnx1 : Below w.heap.size w w1 := (hnx.alloc hnx.size _).grown hgrow1 (by simp; have := hnx.size; omega) (fun k hk => by cases hk; exact Nat.le_refl _)
      clear hnx hgrow1 hown'
      go_loopw [7, 9] (fun v i wr => ∃ m : Nat, m ≤ k.size ∧ i = .int .i64 m ∧ v = .slice (some ⟨w.heap.size, 0, none⟩) (j + 2 + m) (j + k.size + s.size + 6) ∧
          wr.ownsRow w.heap.size 5 1 (.slice (some ⟨w.heap.size, 0, none⟩) (j + 2 + m) (j + k.size + s.size + 6)) (j + 2 + m) (xs.map u8 ++ [u8 44, u8 34] ++ (strCells k).take m) ∧ Below w.heap.size w wr)
        (fun _ i _ => k.size - (intOf i).toNat)
      case atStart => exact ⟨0, Nat.zero_le _, rfl, rfl, by simpa using hown1, hnx1⟩
      case round =>
        clear hown1 hnx1
        obtain ⟨m, hm, rfl, rfl, hown, hnx⟩ := hrel
        by_cases hlt : m < k.size
        · go_wp2_with (at_builtin; refine wpList_append_fits _ rfl (.tmp 43) (.tmp 47) 37 rfl w.heap.size 5 i0 1 Yba.underlying37 hi hz1 w.heap.size (j + 2 + m) (j + k.size + s.size + 6) _ rfl (hown.alloc _) ⟨_, 0, none⟩ 1 1 [u8 (k[m]).toNat] rfl rfl (cell_one_new _ _ _) (u8s_oneCell [((k[m]).toNat : Int)]) (by omega) ?_; intro w2 hown2 hgrow2)
          go_roundw
          case rel => exact ⟨m + 1, by omega, by go_num, rfl, by rw [strCells_take_succ k m hlt, ← List.append_assoc]; exact hown2, (hnx.alloc hnx.size _).grown hgrow2 (by simp; have := hnx.size; omega) (fun k hk => by cases hk; exact Nat.le_refl _)⟩
          case measure => simp [intOf]; omega
        · obtain rfl : m = k.size := by omega
          rw [strCells_take_all] at hown
          go_wp2_with (at_builtin; refine wpList_append_fits _ rfl (.tmp 49) (.tmp 50) 37 rfl w.heap.size 5 i0 1 Yba.underlying37 hi hz1 w.heap.size (j + 2 + k.size) (j + k.size + s.size + 6) _ rfl (hown.alloc _) ⟨_, 0, none⟩ 3 3 [u8 34, u8 58, u8 34] rfl rfl (cells_three_new _ _ _ _ _) (u8s_oneCell [34, 58, 34]) (by omega) ?_; intro w2 hown2 hgrow2)
          have hnx2 : Below w.heap.size w w2 := (hnx.alloc hnx.size _).grown hgrow2 (by simp; have := hnx.size; omega) (fun k hk => by cases hk; exact Nat.le_refl _)
          clear hnx hgrow2 hown
          go_loopw [7, 10] (fun v i wr => ∃ m : Nat, m ≤ s.size ∧ i = .int .i64 m ∧ v = .slice (some ⟨w.heap.size, 0, none⟩) (j + 2 + k.size + 3 + m) (j + k.size + s.size + 6) ∧
              wr.ownsRow w.heap.size 5 1 (.slice (some ⟨w.heap.size, 0, none⟩) (j + 2 + k.size + 3 + m) (j + k.size + s.size + 6)) (j + 2 + k.size + 3 + m) (xs.map u8 ++ [u8 44, u8 34] ++ strCells k ++ [u8 34, u8 58, u8 34] ++ (strCells s).take m) ∧ Below w.heap.size w wr)
            (fun _ i _ => s.size - (intOf i).toNat)
          case atStart => exact ⟨0, Nat.zero_le _, rfl, rfl, by simpa using hown2, hnx2⟩
          case round =>
            clear hown2 hnx2
            obtain ⟨m, hm, rfl, rfl, hown, hnx⟩ := hrel
            by_cases hlt : m < s.size
            · go_wp2_with (at_builtin; refine wpList_append_fits _ rfl (.tmp 58) (.tmp 62) 37 rfl w.heap.size 5 i0 1 Yba.underlying37 hi hz1 w.heap.size (j + 2 + k.size + 3 + m) (j + k.size + s.size + 6) _ rfl (hown.alloc _) ⟨_, 0, none⟩ 1 1 [u8 (s[m]).toNat] rfl rfl (cell_one_new _ _ _) (u8s_oneCell [((s[m]).toNat : Int)]) (by omega) ?_; intro w2 hown2 hgrow2)
              go_roundw
              case rel => exact ⟨m + 1, by omega, by go_num, rfl, by rw [strCells_take_succ s m hlt, ← List.append_assoc]; exact hown2, (hnx.alloc hnx.size _).grown hgrow2 (by simp; have := hnx.size; omega) (fun k hk => by cases hk; exact Nat.le_refl _)⟩
              case measure => simp [intOf]; omega
            · obtain rfl : m = s.size := by omega
              rw [strCells_take_all] at hown
              go_wp2_with (at_builtin; refine wpList_append_fits _ rfl (.tmp 64) (.tmp 65) 37 rfl w.heap.size 5 i0 1 Yba.underlying37 hi hz1 w.heap.size (j + 2 + k.size + 3 + s.size) (j + k.size + s.size + 6) _ rfl (hown.alloc _) ⟨_, 0, none⟩ 1 1 [u8 34] rfl rfl (cell_one_new _ _ _) (u8s_oneCell [34]) (by omega) ?_; intro w2 hown2 hgrow2)
              have e1 : j + 2 + k.size + 3 + s.size + 1 = j + k.size + s.size + 6 := by omega
              rw [e1] at hown2
              go_ret
              refine ⟨?_, ?_, (hnx.alloc hnx.size _).grown hgrow2 (by simp; have := hnx.size; omega) (fun k hk => by cases hk; exact Nat.le_refl _)⟩
              · show Ending.returned (.slice _ (j + 2 + k.size + 3 + s.size + 1) _) = _
                rw [e1]
              · have e2 : List.map u8 xs ++ fld k s = List.map u8 xs ++ [u8 44, u8 34] ++ strCells k ++ [u8 34, u8 58, u8 34] ++ strCells s ++ [u8 34] := by simp [fld]
                rw [e2]; exact hown2

/-- The prefix whatever: told by its cells. -/
theorem expect_any (ao : Option Addr) (b off len cap : Nat) (xs : List Int) (k s : ByteArray) (w : World) (hlen : xs.length = len) (hl : len ≤ 20000) (hk : k.size ≤ 4096) (hs : s.size ≤ 4096) (hao : 0 < len → ao = some ⟨b, off, none⟩ ∧ b < w.heap.size)
    (hc : ∀ j, j < len → w.cell? ⟨b, off + j, none⟩ = some (.int .u8 (xs.getD j 0))) :
    Calls Yba.prog 8 #[.slice ao len cap, .string k, .string s] w fun e w' =>
      e = .returned (.slice (some ⟨w.heap.size, 0, none⟩) (len + k.size + s.size + 6) (len + k.size + s.size + 6)) ∧
      w'.ownsRow w.heap.size 5 1 (.slice (some ⟨w.heap.size, 0, none⟩) (len + k.size + s.size + 6) (len + k.size + s.size + 6)) (len + k.size + s.size + 6) (xs.map u8 ++ fld k s) ∧ Below w.heap.size w w' := by
  rcases Nat.eq_zero_or_pos len with h0 | h0
  · exact expect_zero ao len cap xs k s w hlen h0 hl hk hs
  · obtain ⟨rfl, hb⟩ := hao h0
    exact expect_row b off len cap xs k s w hlen hl hk hs hb hc
end Go.Proofs.Ybulkdbpa
