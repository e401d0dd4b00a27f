/- b5148a: game.LawS5148AModel (function 3): the walk, of no players (nil too). -/
import Derived.Test.YbulkdbpaAParts2
namespace Go.Proofs.Ybulkdbpa.lawS5148AModel
open Go.RowKit Go.Maps

set_option maxHeartbeats 2000000 in
set_option maxRecDepth 100000 in
theorem walk_a (ao : Option Addr) (cap : Nat) (ai : Option Addr) (m mcap n : Nat) (ps : List Pair) (w : World) (hps : ps.length = n) (hn : n ≤ 1024) (H0 : Hid (n = 0)) (hwf : ∀ i, i < n → wfP (ps.getD i (0, 0))) :
    Calls Yba.prog 3 #[.slice ao n cap, .slice ai m mcap] w fun e w' => e = .returned (.bool true) ∧ Below w.heap.size w w' := by
  obtain ⟨i0, hi, hz0, hz1, hz2⟩ := info_parts info28
  obtain ⟨i3, hi3, hy0, hy1, hy2⟩ := info_parts info3
  have Hps : Hid (ps.length = n) := hps
  clear hps
  have d0 : decide ((1024 : Int) < (n : Int)) = false := decide_eq_false (by omega)
  go_enter Yba.func3, Yba.ntmps3
  go_wp2_with (at_make; refine wpList_make_full _ rfl _ _ 24 rfl w.heap.size 28 i0 _ 3 Yba.underlying24 hi hz0 hz1 _ _ _ _ n rfl rfl (by omega) (by omega) (by rw [hz2]; omega) (by unfold maxLen; omega) (Nat.le_refl _) ?_; intro w0 hown0 hgrow0)
  have hb0 := (Below.refl w.heap.size w).grown hgrow0 (Nat.le_refl _) (fun k h => by cases h)
  have hR0 : Rowk w0 w.heap.size n 0 (fun _ => ByteArray.empty) ps := ⟨fun i h => absurd h (by omega), fun j hj => ⟨⟨_, (hown0.cellAt j (by omega)).trans (List.getElem?_eq_getElem (by rw [hown0.1]; omega))⟩, hown0.frozenAt j⟩⟩
  have hlt0 := (hown0.lt _ rfl).2
  clear hown0 hgrow0
  obtain ⟨ids, hids⟩ : ∃ ids, ids = fun _ => ByteArray.empty := ⟨_, rfl⟩
  rw [← hids] at hR0
  have Hids : Hid (ids = fun _ => ByteArray.empty) := hids
  clear hids
  go_loopw [6] (fun i wr => ∃ k : Nat, k ≤ n ∧ i = .int .i64 k ∧ Rowk wr w.heap.size n k ids ps ∧ w.heap.size < wr.heap.size ∧ Below w.heap.size w wr) (fun i _ => n - (intOf i).toNat)
  case atStart => exact ⟨0, Nat.zero_le _, rfl, hR0, hlt0, hb0⟩
  case round =>
    obtain ⟨k, hk, rfl, hR, hlt', hnx⟩ := hrel
    by_cases hlt : k < n
    · exact absurd H0.out (by omega)
    · obtain rfl : k = n := by omega
      clear hR0 hb0 hlt0 Hids
      obtain ⟨c, hcn⟩ : ∃ c, (dis ps).length = c := ⟨_, rfl⟩
      go_wp2_with fail
      have hbG := hnx.alloc hnx.size (.cells #[.slice none 0 0, .slice none 0 0, .slice (some ⟨w.heap.size, 0, none⟩) k k] 32)
      have hpl : ∀ i, i < k → PlayerAt (wr.alloc (.cells #[.slice none 0 0, .slice none 0 0, .slice (some ⟨w.heap.size, 0, none⟩) k k] 32)) w.heap.size i (ids i) (ps.getD i (0, 0)) := fun i hi => (hR.at' i hi).alloc hlt' _
      refine (groups_at wr.heap.size w.heap.size k ids ps _ (wr.heap.size + 1) c (by simp) hcn Hps.out hn hwf (by simp) (fun _ => by simp; omega) hpl).mono ?_
      rintro e w2 ⟨rfl, hgr2, hz2', hb2⟩
      have hG2 : w2.cell? ⟨wr.heap.size, 2, none⟩ = some (.slice (some ⟨w.heap.size, 0, none⟩) k k) := (hb2.cell (p := ⟨wr.heap.size, 2, none⟩) (by simp)).trans (by simp)
      have hbW2 : Below w.heap.size w w2 := hbG.trans (hb2.mono (by omega))
      have hpl2 : ∀ i, i < k → PlayerAt w2 w.heap.size i (ids i) (ps.getD i (0, 0)) := fun i hi => (hpl i hi).below hb2 (by omega)
      have Hcn : Hid ((dis ps).length = c) := hcn
      clear hcn hbG hpl hR hnx hb2
      generalize wr.heap.size = G at *
      generalize hP : w.heap.size = P at *
      have HP : Hid (w.heap.size = P) := hP
      clear hP
      go_wp2_with (at_make; refine wpList_make_own _ rfl _ _ 33 rfl w2.heap.size 3 i3 (.int .i64 0) 1 Yba.underlying33 hi3 hy0 hy1 _ _ _ k rfl rfl (by omega) (by rw [hy2]; omega) (by unfold maxLen; omega) (Nat.le_refl _) ?_; intro w3 hown3 hgrow3)
      have hb3 : Below w2.heap.size w2 w3 := (Below.refl w2.heap.size w2).grown hgrow3 (Nat.le_refl _) (fun k h => by cases h)
      clear hgrow3
      go_loopw [11, 12] (fun v i wr => ∃ (j m : Nat) (fs : List Nat), j ≤ k ∧ m ≤ j ∧ fs.length = m ∧ i = .int .i64 j ∧ v = .slice (some ⟨w2.heap.size, 0, none⟩) m k ∧
          wr.ownsRow w2.heap.size 3 1 (.slice (some ⟨w2.heap.size, 0, none⟩) m k) m (fs.map fun x => i64 (x : Nat)) ∧ Firsts ps j fs ∧ Below w2.heap.size w2 wr)
        (fun _ i _ => k - (intOf i).toNat)
      case atStart => exact ⟨0, 0, [], Nat.zero_le _, Nat.zero_le _, rfl, rfl, rfl, by simpa using hown3, firsts_start ps, hb3⟩
      case round =>
        clear hown3 hb3
        obtain ⟨j, m', fs, hj, hmj, hfl, rfl, rfl, hown, hF, hnx⟩ := hrel
        by_cases hlt2 : j < k
        · exact absurd H0.out (by omega)
        · obtain rfl : j = k := by omega
          have hcm : (dis ps).length = fs.length := by
            have := hF.length
            rwa [List.take_of_length_le (by rw [Hps.out]; exact Nat.le_refl _)] at this
          obtain rfl : c = m' := by rw [← Hcn.out, hcm, hfl]
          have hG4 := (hnx.cell (p := ⟨G, 2, none⟩) (World.block_lt_of_cell? _ _ hG2)).trans hG2
          have hpl4 : ∀ i, i < j → PlayerAt wr P i (ids i) (ps.getD i (0, 0)) := fun i hi => (hpl2 i hi).below hnx (by have := hbW2.size; omega)
          have hbW4 := hbW2.trans (hnx.mono (by have := hbW2.size; omega))
          clear hpl2 hnx hF hcm hown hfl hgr2 hG2 Hcn
          go_wp2_with fail
          go_loopw [16] (fun i wq => ∃ t : Nat, t ≤ j ∧ i = .int .i64 t ∧ ∃ q, wq = wr.drewN q) (fun i _ => j - (intOf i).toNat)
          case atStart => exact ⟨0, Nat.zero_le _, rfl, 0, rfl⟩
          case round =>
            obtain ⟨t, ht, rfl, q, rfl⟩ := hrel
            by_cases hlt4 : t < j
            · exact absurd H0.out (by omega)
            · go_wp2
              go_ret
              exact ⟨by simp, by rw [HP.out]; exact below_drewN hbW4 _⟩
end Go.Proofs.Ybulkdbpa.lawS5148AModel
