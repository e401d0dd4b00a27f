/- b5148a: (*Game).groups (function 6) by its contract. -/
import Derived.Test.YbulkdbpaAParts
import Derived.WalkSpells
namespace Go.Proofs.Ybulkdbpa.lawS5148AModel
open Go.RowKit Go.Maps

theorem info3 : (Yba.prog.info? 3).map (fun i => (i.zero, i.size, i.bytes)) = some (some (.int .i64 0), 1, 8) := by kernel_rfl

/-- The player at place i of the row in block pb. -/
def PlayerAt (w : World) (pb i : Nat) (id : ByteArray) (p : Pair) : Prop :=
  w.cell? ⟨pb, i * 3, none⟩ = some (.string id) ∧ w.cell? ⟨pb, i * 3 + 1, none⟩ = some (i64 p.1) ∧ w.cell? ⟨pb, i * 3 + 2, none⟩ = some (i64 p.2)

set_option maxHeartbeats 1000000 in
theorem groups_any (gb pb n : Nat) (ids : Nat → ByteArray) (ps : List Pair) (w : World) (hps : ps.length = n) (hn : n ≤ 1024) (hwf : ∀ i, i < n → wfP (ps.getD i (0, 0))) (hg : w.cell? ⟨gb, 2, none⟩ = some (.slice (some ⟨pb, 0, none⟩) n n)) (hpb : 0 < n → pb < w.heap.size)
    (hc : ∀ i, i < n → PlayerAt w pb i (ids i) (ps.getD i (0, 0))) :
    Calls Yba.prog 6 #[.pointer (some ⟨gb, 0, none⟩)] w fun e w' => e = .returned (.tuple #[.slice (some ⟨w.heap.size, 0, none⟩) n n, .int .i64 ((dis ps).length : Nat)]) ∧
      (∀ i, i < n → w'.cell? ⟨w.heap.size, i, none⟩ = some (i64 (num ps i : Nat))) ∧ w.heap.size < w'.heap.size ∧ Below w.heap.size w w' := by
  obtain ⟨i0, hi, hz0, hz1, hz2⟩ := info_parts info3
  have hmm := @run_makeMap Yba.prog
  have Hps : Hid (ps.length = n) := hps
  clear hps
  have hgb : gb < w.heap.size := World.block_lt_of_cell? _ _ hg
  go_enter Yba.func6, Yba.ntmps6
  go_wp2_with (at_make; refine wpList_make_full _ rfl _ _ 33 rfl w.heap.size 3 i0 (.int .i64 0) 1 Yba.underlying33 hi hz0 hz1 _ _ _ _ n rfl rfl (by omega) (by omega) (by rw [hz2]; omega) (by unfold maxLen; omega) (Nat.le_refl _) ?_; intro w0 hown0 hgrow0; have hb0 := (Below.refl w.heap.size w).grown hgrow0 (Nat.le_refl _) (fun k h => by cases h); have hg0 : w0.cell? ⟨gb, 2, none⟩ = some (.slice (some ⟨pb, 0, none⟩) n n) := (hb0.cell (p := ⟨gb, 2, none⟩) hgb).trans hg; have hg1 : (w0.alloc (.map #[] 0)).cell? ⟨gb, 2, none⟩ = some (.slice (some ⟨pb, 0, none⟩) n n) := ((hb0.alloc hb0.size _).cell (p := ⟨gb, 2, none⟩) hgb).trans hg)
  have hlt0 : w.heap.size < w0.heap.size := (hown0.lt _ rfl).2
  go_loopw [22] (fun i wr => ∃ (k : Nat) (D : DataW Unit) (xs : List Value), k ≤ n ∧ i = .int .i64 k ∧ wr.ownsMap Yba.prog 54 (plainElem Yba.prog 3) w0.heap.size k D ∧ MapIs D (dis (ps.take k)) ∧
      wr.ownsRow w.heap.size 3 1 (.slice (some ⟨w.heap.size, 0, none⟩) n n) n xs ∧ (∀ i, i < k → xs[i]? = some (i64 (num ps i : Nat))) ∧ Below w.heap.size w wr)
    (fun i _ => n - (intOf i).toNat)
  case atStart => exact ⟨0, .map [], _, Nat.zero_le _, rfl, World.ownsMap_made _ _ _ _, mapIs_start, hown0.alloc _, fun i h => absurd h (by omega), hb0.alloc hb0.size _⟩
  case round =>
    obtain ⟨k, D, xs, hk, rfl, hmap, hD, hown, hxs, hnx⟩ := hrel
    by_cases hlt : k < n
    · have hkl : k < ps.length := by rw [Hps.out]; exact hlt
      obtain ⟨h1, h2, h3⟩ := hc k hlt
      have hw := hwf k hlt
      have hpb' := hpb (by omega)
      have h1 : wr.cell? ⟨pb, k * 3, none⟩ = some (.string (ids k)) := (hnx.cell (p := ⟨pb, k * 3, none⟩) hpb').trans h1
      have h2 : wr.cell? ⟨pb, k * 3 + 1, none⟩ = some (i64 (ps.getD k (0, 0)).1) := (hnx.cell (p := ⟨pb, k * 3 + 1, none⟩) hpb').trans h2
      have h3 : wr.cell? ⟨pb, k * 3 + 2, none⟩ = some (i64 (ps.getD k (0, 0)).2) := (hnx.cell (p := ⟨pb, k * 3 + 2, none⟩) hpb').trans h3
      obtain ⟨p, hp⟩ : ∃ p, p = ps.getD k (0, 0) := ⟨_, rfl⟩
      rw [← hp] at h2 h3 hw
      obtain ⟨id, hid⟩ : ∃ id, id = ids k := ⟨_, rfl⟩
      rw [← hid] at h1
      have Hp : Hid (p = ps.getD k (0, 0)) := hp
      clear hp hid
      obtain ⟨x0, hx0⟩ : ∃ x0, xs[k]? = some x0 := ⟨_, List.getElem?_eq_getElem (by have := hown.1; omega)⟩
      by_cases hm : p ∈ dis (ps.take k)
      · have hh : Maps.has D (kl p) = true := by rw [hD.has p hw]; simpa using hm
        have hsl := hown.alloc (.cells #[.string id, i64 p.1, i64 p.2] 28)
        have hA := (hsl.cellAt k (by omega)).trans hx0
        have hF := hsl.frozenAt k
        go_wp2_with (at_lookup; refine wpList_lookup_own_ok_int _ rfl _ _ 52 rfl 54 3 .i64 law Yba.underlying52 Yba.underlying3 (zero3 _) w0.heap.size k D rfl (hmap.alloc _) _ (kl p) rfl (keyOf_pair p hw) ?_; intro c hat hwc)
        obtain rfl : c = ((dis (ps.take k)).idxOf p : Nat) := by
          rw [hD.num p hw hm] at hat
          simpa using hat.symm
        go_roundw
        case rel =>
          refine ⟨k + 1, D, xs.set k (i64 ((dis (ps.take k)).idxOf p : Nat)), by omega, by go_num, ((hmap.alloc _).setCell (by exact (by omega : w0.heap.size ≠ w.heap.size)) _).mono (by omega), ?_, (hsl.stored k _).1, ?_, (hnx.alloc hnx.size _).setCell (by exact Nat.le_refl _) _⟩
          · rw [dis_take_succ ps k hkl, ← Hp.out, add, if_pos hm]; exact hD
          · intro i hi
            rw [List.getElem?_set]
            split
            · next e =>
              subst e
              rw [if_pos (by have := hown.1; omega), num_old ps k hkl (Hp.out ▸ hm), ← Hp.out]
            · exact hxs i (by omega)
        case measure => simp [intOf]; omega
      · have hh : Maps.has D (kl p) = false := by rw [hD.has p hw]; simpa using hm
        go_wp2_with (first
          | (at_lookup; refine wpList_lookup_own_ok_int _ rfl _ _ 52 rfl 54 3 .i64 law Yba.underlying52 Yba.underlying3 (zero3 _) w0.heap.size k D rfl (hmap.alloc _) _ (kl p) rfl (keyOf_pair p hw) ?_; intro c hat hwc)
          | (at_len; refine wpList_len_own _ rfl _ 52 rfl 54 3 Yba.underlying52 _ w0.heap.size k D rfl (hmap.alloc _) ?_)
          | (at_mapUpdate; refine wpList_mapUpdate_own _ rfl _ _ _ 52 rfl 54 3 law Yba.underlying52 _ w0.heap.size k _ rfl (hmap.alloc _) (by unfold maxLen; omega) _ _ (kl p) rfl rfl (keyOf_pair p hw) _ [] (plainElem_int Yba.underlying3 (WalkArith.wf_i64 (by have := hmap.size_le; omega))) ?_; intro w1 hmap1 hgrow1; have hsl := (hown.alloc _).kept hgrow1 (.inr (by simp [Value.ownBlock]; omega)); have hA := (hsl.cellAt k (by omega)).trans hx0; have hF := hsl.frozenAt k; have hb1 := (hnx.alloc hnx.size _).grown hgrow1 (by simp; have := hnx.size; omega) (fun j hj => by cases hj; omega)))
        have hsz : Maps.size D = (dis (ps.take k)).length := hD.size
        go_roundw
        case rel =>
          rw [hsz] at hmap1
          refine ⟨k + 1, _, xs.set k (i64 (Maps.size D : Nat)), by omega, by go_num, hmap1.setCell (by exact (by omega : w0.heap.size ≠ w.heap.size)) _, ?_, (hsl.stored k _).1, ?_, hb1.setCell (by exact Nat.le_refl _) _⟩
          · rw [dis_take_succ ps k hkl, ← Hp.out, add, if_neg hm]; exact hD.put (hmap.tidy law) hw hm
          · intro i hi
            rw [List.getElem?_set]
            split
            · next e =>
              subst e
              rw [if_pos (by have := hown.1; omega), num_new ps k hkl (Hp.out ▸ hm), hsz]
            · exact hxs i (by omega)
        case measure => simp [intOf]; omega
    · obtain rfl : k = n := by omega
      go_wp2_with (at_len; refine wpList_len_own _ rfl _ 52 rfl 54 3 Yba.underlying52 _ w0.heap.size k D rfl hmap ?_)
      go_ret2
      have hsz := hD.size
      rw [List.take_of_length_le (by rw [Hps.out]; exact Nat.le_refl _)] at hsz
      refine ⟨by simp [hsz], fun i hi => ?_, (hown.lt _ rfl).2, hnx⟩
      rw [hown.cellAt i (by omega)]
      exact hxs i hi
end Go.Proofs.Ybulkdbpa.lawS5148AModel
