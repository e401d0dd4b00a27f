/- b5148a: game.LawS5148AModel (function 3): the walk. -/
import Derived.Test.YbulkdbpaAParts2
namespace Go.Proofs.Ybulkdbpa.lawS5148AModel
open Go.RowKit Go.Maps

set_option maxHeartbeats 2000000 in
set_option maxRecDepth 100000 in
theorem walk_c (b off cap ib ioff m mcap n : Nat) (ss : Nat → ByteArray) (ps : List Pair) (w : World) (hps : ps.length = n) (hn : n ≤ 1024) (hwf : ∀ i, i < n → wfP (ps.getD i (0, 0))) (hb : 0 < n → b < w.heap.size) (hib : 0 < m → ib < w.heap.size)
    (hc : ∀ i, i < n → PairAt w b off i (ps.getD i (0, 0))) (hs : ∀ i, i < m → w.cell? ⟨ib, ioff + i, none⟩ = some (.string (ss i))) :
    Calls Yba.prog 3 #[.slice (some ⟨b, off, none⟩) n cap, .slice (some ⟨ib, ioff, none⟩) m mcap] w fun e w' => e = .returned (.bool true) ∧ Below w.heap.size w w' := by
  obtain ⟨i0, hi, hz0, hz1, hz2⟩ := info_parts info28
  obtain ⟨i3, hi3, hy0, hy1, hy2⟩ := info_parts info3
  have Hps : Hid (ps.length = n) := hps
  clear hps
  have d0 : decide ((1024 : Int) < (n : Int)) = false := decide_eq_false (by omega)
  go_enter Yba.func3, Yba.ntmps3
  go_wp2_with (at_make; refine wpList_make_full _ rfl _ _ 24 rfl w.heap.size 28 i0 _ 3 Yba.underlying24 hi hz0 hz1 _ _ _ _ n rfl rfl (by omega) (by omega) (by rw [hz2]; omega) (by unfold maxLen; omega) (Nat.le_refl _) ?_; intro w0 hown0 hgrow0)
  have hb0 := (Below.refl w.heap.size w).grown hgrow0 (Nat.le_refl _) (fun k h => by cases h)
  have hR0 : Rowk w0 w.heap.size n 0 (fun i => if i < m then ss i else ByteArray.empty) ps := ⟨fun i h => absurd h (by omega), fun j hj => ⟨⟨_, (hown0.cellAt j (by omega)).trans (List.getElem?_eq_getElem (by rw [hown0.1]; omega))⟩, hown0.frozenAt j⟩⟩
  have hlt0 := (hown0.lt _ rfl).2
  clear hown0 hgrow0
  obtain ⟨ids, hids⟩ : ∃ ids, ids = fun i => if i < m then ss i else ByteArray.empty := ⟨_, rfl⟩
  rw [← hids] at hR0
  have Hids : Hid (ids = fun i => if i < m then ss i else ByteArray.empty) := hids
  clear hids
  go_loopw [6] (fun i wr => ∃ k : Nat, k ≤ n ∧ i = .int .i64 k ∧ Rowk wr w.heap.size n k ids ps ∧ w.heap.size < wr.heap.size ∧ Below w.heap.size w wr) (fun i _ => n - (intOf i).toNat)
  case atStart => exact ⟨0, Nat.zero_le _, rfl, hR0, hlt0, hb0⟩
  case round =>
    obtain ⟨k, hk, rfl, hR, hlt', hnx⟩ := hrel
    by_cases hlt : k < n
    · obtain ⟨h1, h2⟩ := hc k hlt
      have hb' := hb (by omega)
      have g1 := (hnx.cell (p := ⟨b, off + k * 2, none⟩) hb').trans h1
      have g2 := (hnx.cell (p := ⟨b, off + k * 2 + 1, none⟩) hb').trans h2
      clear h1 h2
      obtain ⟨p, hp⟩ : ∃ p, p = ps.getD k (0, 0) := ⟨_, rfl⟩
      rw [← hp] at g1 g2
      have Hp : Hid (p = ps.getD k (0, 0)) := hp
      clear hp
      obtain ⟨⟨v0, c0⟩, f0⟩ := hR.there (k * 3) (by omega)
      obtain ⟨⟨v1, c1⟩, f1⟩ := hR.there (k * 3 + 1) (by omega)
      obtain ⟨⟨v2, c2⟩, f2⟩ := hR.there (k * 3 + 2) (by omega)
      have hne : ¬ b = w.heap.size := by omega
      have i1 : (0 : Int) ≤ (k : Int) := by omega
      have i2 : (k : Int) < (n : Int) := by omega
      by_cases hid : k < m
      · have gs := (hnx.cell (p := ⟨ib, ioff + k, none⟩) (hib (by omega))).trans (hs k hid)
        go_wp2

        go_region
        go_wp2
        go_roundw
        case rel => exact ⟨k + 1, by omega, by go_num, hR.step hlt (by rw [Hids.out]; simp [hid]) Hp.out, by simpa [World.setCell] using hlt', (((hnx.setCell (by exact Nat.le_refl _) _).setCell (by exact Nat.le_refl _) _).setCell (by exact Nat.le_refl _) _).drew⟩
        case measure => simp [intOf]; omega
      · go_wp2
        go_region
        go_wp2
        go_roundw
        case rel => exact ⟨k + 1, by omega, by go_num, hR.step hlt (by rw [Hids.out]; simp [hid]; rfl) Hp.out, by simpa [World.setCell] using hlt', (((hnx.setCell (by exact Nat.le_refl _) _).setCell (by exact Nat.le_refl _) _).setCell (by exact Nat.le_refl _) _).drew⟩
        case measure => simp [intOf]; omega
    · obtain rfl : k = n := by omega
      clear hib hs hR0 hb0 hlt0 Hids
      obtain ⟨c, hcn⟩ : ∃ c, (dis ps).length = c := ⟨_, rfl⟩
      go_wp2_with fail
      have hbG := hnx.alloc hnx.size (.cells #[.slice none 0 0, .slice none 0 0, .slice (some ⟨w.heap.size, 0, none⟩) k k] 32)
      have hpl : ∀ i, i < k → PlayerAt (wr.alloc (.cells #[.slice none 0 0, .slice none 0 0, .slice (some ⟨w.heap.size, 0, none⟩) k k] 32)) w.heap.size i (ids i) (ps.getD i (0, 0)) := fun i hi => (hR.at' i hi).alloc hlt' _
      refine (groups_at wr.heap.size w.heap.size k ids ps _ (wr.heap.size + 1) c (by simp) hcn Hps.out hn hwf (by simp) (fun _ => by simp; omega) hpl).mono ?_
      rintro e w2 ⟨rfl, hgr2, hz2', hb2⟩
      have hG2 : w2.cell? ⟨wr.heap.size, 2, none⟩ = some (.slice (some ⟨w.heap.size, 0, none⟩) k k) := (hb2.cell (p := ⟨wr.heap.size, 2, none⟩) (by simp)).trans (by simp)
      have hbW2 : Below w.heap.size w w2 := hbG.trans (hb2.mono (by omega))
      have hpl2 : ∀ i, i < k → PlayerAt w2 w.heap.size i (ids i) (ps.getD i (0, 0)) := fun i hi => (hpl i hi).below hb2 (by omega)
      have hps2 : ∀ i, i < k → PairAt w2 b off i (ps.getD i (0, 0)) := fun i hi => (hc i hi).below hbW2 (hb (by omega))
      have hbz2 : 0 < k → b < w2.heap.size := fun h => by have := hb h; have := hbW2.size; omega
      have Hcn : Hid ((dis ps).length = c) := hcn
      clear hcn hbG hpl hR hnx hc hb hb2
      generalize wr.heap.size = G at *
      generalize hP : w.heap.size = P at *
      have HP : Hid (w.heap.size = P) := hP
      clear hP
      go_wp2_with (at_make; refine wpList_make_own _ rfl _ _ 33 rfl w2.heap.size 3 i3 (.int .i64 0) 1 Yba.underlying33 hi3 hy0 hy1 _ _ _ k rfl rfl (by omega) (by rw [hy2]; omega) (by unfold maxLen; omega) (Nat.le_refl _) ?_; intro w3 hown3 hgrow3)
      have hb3 : Below w2.heap.size w2 w3 := (Below.refl w2.heap.size w2).grown hgrow3 (Nat.le_refl _) (fun k h => by cases h)
      clear hgrow3
      go_loopw [11, 12] (fun v i wr => ∃ (j m : Nat) (fs : List Nat), j ≤ k ∧ m ≤ j ∧ fs.length = m ∧ i = .int .i64 j ∧ v = .slice (some ⟨w2.heap.size, 0, none⟩) m k ∧
          wr.ownsRow w2.heap.size 3 1 (.slice (some ⟨w2.heap.size, 0, none⟩) m k) m (fs.map fun x => i64 (x : Nat)) ∧ Firsts ps j fs ∧ Below w2.heap.size w2 wr)
        (fun _ i _ => k - (intOf i).toNat)
      case atStart => exact ⟨0, 0, [], Nat.zero_le _, Nat.zero_le _, rfl, rfl, rfl, by simpa using hown3, firsts_start ps, hb3⟩
      case round =>
        clear hown3 hb3
        obtain ⟨j, m', fs, hj, hmj, hfl, rfl, rfl, hown, hF, hnx⟩ := hrel
        by_cases hlt2 : j < k
        · -- INNER
          have hjl : j < ps.length := by rw [Hps.out]; exact hlt2
          have hbz := hbz2 (by omega)
          obtain ⟨y1, y2⟩ := (hps2 j hlt2).below hnx hbz
          obtain ⟨p, hp⟩ : ∃ p, p = ps.getD j (0, 0) := ⟨_, rfl⟩
          rw [← hp] at y1 y2
          have gr : wr.cell? ⟨G + 1, j, none⟩ = some (i64 (num ps j : Nat)) := (hnx.cell (p := ⟨G + 1, j, none⟩) hz2').trans (hgr2 j hlt2)
          obtain ⟨N, hN⟩ : ∃ N, N = num ps j := ⟨_, rfl⟩
          rw [← hN] at gr
          have HN : Hid (N = num ps j) := hN
          have Hp : Hid (p = ps.getD j (0, 0)) := hp
          have Hfl : Hid (fs.length = m') := hfl
          clear hp hN hfl
          have j0 : (0 : Int) ≤ (j : Int) := by omega
          have j1 : (j : Int) < (k : Int) := by omega
          go_wp2_with fail
          go_loopw [13, 14] (fun kv jv wq => ∃ t : Nat, t ≤ m' ∧ kv = .int .i64 (-1) ∧ jv = .int .i64 t ∧ (∀ s, s < t → (dis (ps.take j)).getD s (0, 0) ≠ ps.getD j (0, 0)) ∧ ∃ q, wq = wr.drewN q) (fun _ jv _ => m' - (intOf jv).toNat)
          case atStart => exact ⟨0, Nat.zero_le _, rfl, rfl, fun s h => absurd h (by omega), 0, rfl⟩
          case round =>
            obtain ⟨t, ht, rfl, rfl, hbef, q, rfl⟩ := hrel
            by_cases hlt3 : t < m'
            · have ht' : t < fs.length := by rw [Hfl.out]; exact hlt3
              obtain ⟨e1, e2⟩ := hF.get ht'
              have cF : wr.cell? ⟨w2.heap.size, t, none⟩ = some (i64 (fs.getD t 0 : Nat)) := by
                rw [hown.cellAt t (by omega)]
                simp [List.getD, ht']
              obtain ⟨x, hx⟩ : ∃ x, x = fs.getD t 0 := ⟨_, rfl⟩
              rw [← hx] at cF e1 e2
              have hxk : x < k := by rw [Hps.out] at e2; exact e2
              obtain ⟨z1, z2⟩ := (hps2 x hxk).below hnx hbz
              obtain ⟨r, hr⟩ : ∃ r, r = ps.getD x (0, 0) := ⟨_, rfl⟩
              rw [← hr] at z1 z2 e1
              have HE : Hid ((dis (ps.take j)).getD t (0, 0) = r) := e1
              have Hr : Hid (r = ps.getD x (0, 0)) := hr
              have Hx : Hid (x = fs.getD t 0) := hx
              clear e1 hr hx
              have x0 : (0 : Int) ≤ (x : Int) := by omega
              have x1 : (x : Int) < (k : Int) := by omega
              by_cases c1 : r.1 = p.1
              · have d1 : (r.1 == p.1) = true := by simp [c1]
                by_cases c2 : r.2 = p.2
                · have d2 : (r.2 == p.2) = true := by simp [c2]
                  have HC : Hid (r = p) := Prod.ext c1 c2
                  clear c1 c2
                  obtain ⟨hNt, hF'⟩ := hF.found hjl ht' hbef (by rw [← Hx.out, ← Hr.out, HC.out]; exact Hp.out)
                  rw [HN.out, hNt] at gr
                  clear hNt
                  go_wp2
                  go_quiet (fail)
                  go_wp2
                  go_roundw
                  case rel => exact ⟨j + 1, m', fs, by omega, by omega, Hfl.out, by go_num, rfl, hown, hF', below_drewN hnx _⟩
                  case measure => simp [intOf]; omega
                · have d2 : (r.2 == p.2) = false := by simp [c2]
                  have hb' : ∀ s, s < t + 1 → (dis (ps.take j)).getD s (0, 0) ≠ ps.getD j (0, 0) := fun s hs => by
                    rcases Nat.lt_succ_iff_lt_or_eq.1 hs with h | h
                    · exact hbef s h
                    · rw [h, HE.out, ← Hp.out]; exact fun e => c2 (by rw [e])
                  clear c1 c2 hbef
                  go_wp2
                  go_quiet (fail)
                  go_wp2
                  go_roundw
                  case rel => exact ⟨t + 1, by omega, rfl, by go_num, hb', _, rfl⟩
                  case measure => simp [intOf]; omega
              · have d1 : (r.1 == p.1) = false := by simp [c1]
                have hb' : ∀ s, s < t + 1 → (dis (ps.take j)).getD s (0, 0) ≠ ps.getD j (0, 0) := fun s hs => by
                  rcases Nat.lt_succ_iff_lt_or_eq.1 hs with h | h
                  · exact hbef s h
                  · rw [h, HE.out, ← Hp.out]; exact fun e => c1 (by rw [e])
                clear c1 hbef
                go_wp2
                go_quiet (fail)
                go_wp2
                go_roundw
                case rel => exact ⟨t + 1, by omega, rfl, by go_num, hb', _, rfl⟩
                case measure => simp [intOf]; omega
            · obtain rfl : t = m' := by omega
              obtain ⟨hNt, hF'⟩ := hF.new hjl (by rw [Hfl.out]; exact hbef)
              rw [HN.out, hNt, Hfl.out] at gr
              clear hNt
              go_wp2_with (at_builtin; refine wpList_append_fits _ rfl _ _ 33 rfl w2.heap.size 3 i3 1 Yba.underlying33 hi3 hy1 w2.heap.size t k _ rfl (World.ownsRow.alloc (by exact hown) _) ⟨_, 0, none⟩ 1 1 [i64 j] rfl rfl (cell_one_new _ _ _) (ints_oneCell .i64 [(j : Int)]) (by omega) ?_; intro w4 hown4 hgrow4; have gr4 : w4.cell? ⟨G + 1, j, none⟩ = some (i64 (t : Nat)) := hgrow4.cell (a := ⟨G + 1, j, none⟩) (by rw [World.cell?_alloc_old _ _ _ (by exact (by have := hnx.size; omega : (G + 1 : Nat) ≠ wr.heap.size))]; exact gr) (by simp; omega))
              go_roundw
              case rel => exact ⟨j + 1, t + 1, fs ++ [j], by omega, by omega, by simp [Hfl.out], by go_num, rfl, by simpa using hown4, hF', ((below_drewN hnx _).alloc (by simpa using hnx.size) _).grown hgrow4 (by simp; have := hnx.size; omega) (fun k hk => by cases hk; exact Nat.le_refl _)⟩
              case measure => simp [intOf]; omega
        · obtain rfl : j = k := by omega
          have hcm : (dis ps).length = fs.length := by
            have := hF.length
            rwa [List.take_of_length_le (by rw [Hps.out]; exact Nat.le_refl _)] at this
          obtain rfl : c = m' := by rw [← Hcn.out, hcm, hfl]
          have hG4 := (hnx.cell (p := ⟨G, 2, none⟩) (World.block_lt_of_cell? _ _ hG2)).trans hG2
          have hpl4 : ∀ i, i < j → PlayerAt wr P i (ids i) (ps.getD i (0, 0)) := fun i hi => (hpl2 i hi).below hnx (by have := hbW2.size; omega)
          have hps4 : ∀ i, i < j → PairAt wr b off i (ps.getD i (0, 0)) := fun i hi => (hps2 i hi).below hnx (hbz2 (by omega))
          have hbW4 := hbW2.trans (hnx.mono (by have := hbW2.size; omega))
          clear hpl2 hps2 hnx hF hcm hown hfl hgr2 hG2 Hcn hbz2
          go_wp2_with fail
          go_loopw [16] (fun i wq => ∃ t : Nat, t ≤ j ∧ i = .int .i64 t ∧ ∃ q, wq = wr.drewN q) (fun i _ => j - (intOf i).toNat)
          case atStart => exact ⟨0, Nat.zero_le _, rfl, 0, rfl⟩
          case round =>
            obtain ⟨t, ht, rfl, q, rfl⟩ := hrel
            by_cases hlt4 : t < j
            · obtain ⟨_, a1, a2⟩ := hpl4 t hlt4
              obtain ⟨e1, e2⟩ := hps4 t hlt4
              obtain ⟨p, hp⟩ : ∃ p, p = ps.getD t (0, 0) := ⟨_, rfl⟩
              rw [← hp] at a1 a2 e1 e2
              clear hp hpl4 hps4
              have t0 : (0 : Int) ≤ (t : Int) := by omega
              have t1 : (t : Int) < (j : Int) := by omega
              go_wp2
              go_quiet (fail)
              go_wp2
              go_roundw
              case rel => exact ⟨t + 1, by omega, by go_num, _, rfl⟩
              case measure => simp [intOf]; omega
            · go_wp2
              go_ret
              exact ⟨by simp, by rw [HP.out]; exact below_drewN hbW4 _⟩
end Go.Proofs.Ybulkdbpa.lawS5148AModel
