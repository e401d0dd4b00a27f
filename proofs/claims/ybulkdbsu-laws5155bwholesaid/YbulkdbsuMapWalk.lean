/- b5155a: api.LawS5155BWhole (function 3): the walk with a map of integrity. -/
import Derived.Test.YbulkdbsuNilWalk
import Derived.Maps.StringElems
namespace Go.Proofs.Ybulkdbsu.lawS5155BWhole
open Go.RowKit Go.Maps Go.WideMaps

theorem law : Keyed Yba.prog 9 := string_keyed Yba.underlying9
theorem zero9 (w : World) : (zeroValue 9).run Yba.prog w = .ok (.string ByteArray.empty) w := by kernel_rfl

theorem ownsMap_below {w w' : World} {B b n : Nat} {D : DataW Unit} (h : w.ownsMap Yba.prog 9 (plainElem Yba.prog 9) b n D) (hb : Below B w w') (hB : b < B) : w'.ownsMap Yba.prog 9 (plainElem Yba.prog 9) b n D := by
  obtain ⟨es, clock, h1, r⟩ := h
  exact ⟨es, clock, (hb.block b hB).trans h1, r⟩

/-- 'm[probe]' behind 'm[probe] = v'. -/
theorem look_put {w : World} {b n : Nat} {D : DataW Unit} (p v : ByteArray) (hp : p.size ≤ maxLen) (hD : IsMap D) (h : w.ownsMap Yba.prog 9 (plainElem Yba.prog 9) b n (D.put (.string p.data.toList) (.lit (.string v.data.toList)))) :
    (Instr.lookup 27 (.map (some b)) (.string p) false).run Yba.prog w = .ok (.string v) w := by
  have hkey := keyOf_string_mk (P := Yba.prog) Yba.underlying9 hp
  obtain ⟨u, ps, hrun, hu⟩ := h.lookup law Yba.underlying27 (zero9 w) (plainElem_string Yba.underlying9 (by decide)) hkey
  rw [atKey_put_same hD (law.key hkey)] at hu
  obtain ⟨s, rfl, hz, _⟩ := plainElem_string_inv Yba.underlying9 hu
  simp at hz
  have : s = v := by
    cases s; cases v
    simp at hz
    simp [hz.1]
  rw [← this]
  exact hrun

set_option maxHeartbeats 4000000 in
set_option maxRecDepth 100000 in
theorem walk_row (b off : Nat) (ss : Nat → ByteArray) (hasName hasAPN hasCRN hasDisp : Bool) (name apn crn disp : ByteArray) (ver : Bool) (n cap : Nat) (w : World) (hn : n ≤ 1024) (hb0 : 0 < n → b < w.heap.size)
    (hs : ∀ i, i < n → w.cell? ⟨b, off + i, none⟩ = some (.string (ss i)) ∧ (ss i).size ≤ maxLen) :
    Calls Yba.prog 3 #[.bool false, .bool hasName, .bool hasAPN, .bool hasCRN, .bool hasDisp, .string name, .string apn, .string crn, .string disp, .bool ver, .bool false, .slice (some ⟨b, off, none⟩) n cap] w fun e w' => e = .returned (.bool true) ∧ Below w.heap.size w w' := by
  have d0 : decide ((1024 : Int) < (n : Int)) = false := decide_eq_false (by omega)
  have q23 := neq_self
  have q27 : ∀ (w : World) (r : Option Nat), (binOp .eql 27 (.map r) (.map none)).run Yba.prog w = .ok (.bool r.isNone) w := fun w r => run_eql_map_nil w _ _ _ r Yba.underlying27
  have hmm := @run_makeMap Yba.prog
  go_enter Yba.func3, Yba.ntmps3
  go_wp2_with fail
  refine (ptr_any hasDisp disp w).mono ?_
  rintro e w1 ⟨dpo, rfl, hD, hb1⟩
  go_wp2_with fail
  go_loopw [27] (fun i wr => ∃ (j : Nat) (D : DataW Unit), j ≤ n ∧ i = .int .i64 j ∧ wr.ownsMap Yba.prog 9 (plainElem Yba.prog 9) w1.heap.size j D ∧ Below w1.heap.size w1 wr) (fun i _ => n - (intOf i).toNat)
  case atStart => exact ⟨0, .map [], Nat.zero_le _, rfl, World.ownsMap_made _ _ _ _, (Below.refl _ _).alloc (Nat.le_refl _) _⟩
  case round =>
    obtain ⟨j, Dm, hj, rfl, hmap, hnx⟩ := hrel
    by_cases hlt : j < n
    · obtain ⟨c0, l0⟩ := hs j hlt
      have c1 : wr.cell? ⟨b, off + j, none⟩ = some (.string (ss j)) := by
        rw [hnx.cell (p := ⟨b, off + j, none⟩) (Nat.lt_of_lt_of_le (hb0 (by omega)) hb1.size), hb1.cell (p := ⟨b, off + j, none⟩) (hb0 (by omega))]
        exact c0
      obtain ⟨s, hsj⟩ : ∃ s, s = ss j := ⟨_, rfl⟩
      rw [← hsj] at c1 l0
      clear c0 hsj
      obtain ⟨wu, hrun, hmap', hgrow'⟩ := hmap.drew.update law Yba.underlying27 (by unfold maxLen; omega) (keyOf_string_mk (P := Yba.prog) Yba.underlying9 l0) (plainElem_string Yba.underlying9 l0)
      have i0 : (0 : Int) ≤ (j : Int) := by omega
      have i1 : (j : Int) < (n : Int) := by omega
      have hbu : Below w1.heap.size w1 wu := hnx.drew.grown hgrow' hnx.size (fun k hk => by cases hk; exact Nat.le_refl _)
      go_wp2
      go_region
      go_wp2
      go_roundw
      case rel => exact ⟨j + 1, _, by omega, by go_num, hmap', hbu⟩
      case measure => simp [intOf]; omega
    · obtain rfl : j = n := by omega
      clear hs hmm
      obtain ⟨N, hN0⟩ : ∃ N, N = Maps.size Dm := ⟨_, rfl⟩
      have hlr : ∀ ty, (Builtin.len_ #[27] ty #[.map (some w1.heap.size)]).run Yba.prog wr = .ok (.int .i64 (N : Nat)) wr := fun ty => by rw [hN0]; exact hmap.len Yba.underlying27 ty
      have HN0 : Hid (N = Maps.size Dm) := hN0
      clear hN0
      have lMB := hmap.lt
      have hD1 := hD.below hnx
      have hbW1 : Below w.heap.size w wr := hb1.trans (hnx.mono hb1.size)
      have lo : w.heap.size ≤ w1.heap.size := hb1.size
      clear hD hnx hb1
      generalize w1.heap.size = MB at *
      go_wp2_with fail
      refine (ptr_any hasName name wr).mono ?_
      rintro e w2 ⟨p0, rfl, hN, hb2⟩
      go_wp2_with fail
      refine (ptr_any hasAPN apn w2).mono ?_
      rintro e w3 ⟨p1, rfl, _, hb3⟩
      go_wp2_with fail
      refine (ptr_any hasCRN crn w3).mono ?_
      rintro e w4 ⟨p2, rfl, _, hb4⟩
      go_wp2_with fail
      have hbo : Below w4.heap.size w4 (w4.alloc (.cells #[.pointer p0, .pointer p1, .pointer p2, .bool ver, .map (some MB)] 30)) := (Below.refl _ _).alloc (Nat.le_refl _) _
      have hD5 := (((hD1.below hb2).below hb3).below hb4).below hbo
      have hN5 := ((hN.below hb3).below hb4).below hbo
      have hR5 : Report (w4.alloc (.cells #[.pointer p0, .pointer p1, .pointer p2, .bool ver, .map (some MB)] 30)) w4.heap.size p0 p1 p2 ver (some MB) := ⟨by simp, by simp, by simp, by simp, by simp⟩
      have s2 := hb2.size
      have s3 := hb3.size
      have s4 := hb4.size
      have s5 := hbo.size
      have hmap5 := ownsMap_below (ownsMap_below (ownsMap_below (ownsMap_below hmap hb2 lMB) hb3 (by omega)) hb4 (by omega)) hbo (by omega)
      have hbW5 : Below w.heap.size w (w4.alloc (.cells #[.pointer p0, .pointer p1, .pointer p2, .bool ver, .map (some MB)] 30)) :=
        (((hbW1.trans (hb2.mono (by omega))).trans (hb3.mono (by omega))).trans (hb4.mono (by omega))).trans (hbo.mono (by omega))
      refine (rich_any w4.heap.size p0 p1 p2 dpo ver (some MB) hasName hasDisp name disp _ hR5 hN5 hD5).mono ?_
      rintro e w6 ⟨S, mpo, rfl, hS, cS5, hM, hb6⟩
      have hR6 := hR5.below hb6
      have hN6 := hN5.below hb6
      have hD6 := hD5.below hb6
      have s6 := hb6.size
      have hmap6 := ownsMap_below hmap5 hb6 (by omega)
      have lMB : MB < w6.heap.size := hmap6.lt
      have hbW6 : Below w.heap.size w w6 := hbW5.trans (hb6.mono hbW5.size)
      clear hD1 hN hb2 hb3 hb4 hbo hD5 hN5 hR5 hbW5 hb6 hmap5 hmap hlr s2 s3 s4 s5 s6 hbW1
      generalize w4.heap.size = R at *
      obtain ⟨r0, r1, r2, r3, r4⟩ := hR6
      obtain ⟨s0, s1, s2, s3, s4⟩ := hS
      have lR : R < w6.heap.size := World.block_lt_of_cell? _ _ r0
      have lS : S < w6.heap.size := World.block_lt_of_cell? _ _ s0
      cases hasName <;> cases hasDisp
      · obtain rfl : p0 = none := hN6.none
        obtain rfl : dpo = none := hD6.none
        obtain rfl : mpo = none := hM.none rfl
        go_wp2
        go_quiet (fail)
        go_wp2_with (first
          | (go_at_call 4; refine (ptr_any true name _).mono ?_; rintro e w7 ⟨po7, rfl, h7, hb7⟩; obtain ⟨Q7, rfl, hQ7, cQ7⟩ := h7.some; have hc7 : ∀ b o, b < w6.heap.size → w7.cell? ⟨b, o, none⟩ = w6.cell? ⟨b, o, none⟩ := fun b o h => hb7.cell (p := ⟨b, o, none⟩) h; have hmap7 := ownsMap_below (by exact hmap6) hb7 (by exact lMB); have hlr7 : ∀ ty, (Builtin.len_ #[27] ty #[.map (some MB)]).run Yba.prog w7 = .ok (.int .i64 (N : Nat)) w7 := fun ty => by rw [HN0.out]; exact hmap7.len Yba.underlying27 ty)
          | (at_mapUpdate; refine wpList_mapUpdate_own _ rfl _ _ _ 27 rfl 9 9 law Yba.underlying27 _ MB j Dm rfl hmap7 (by unfold maxLen; omega) _ _ _ rfl rfl (keyOf_string_mk (P := Yba.prog) (s := ⟨#[122, 122, 115, 53, 49, 53, 53, 98, 45, 112, 114, 111, 98, 101]⟩) Yba.underlying9 (by decide)) _ [] (plainElem_string (s := ⟨#[122, 122, 115, 101, 116]⟩) Yba.underlying9 (by decide)) ?_; intro w8 hmap8 hgrow8; have hlk := look_put ⟨#[122, 122, 115, 53, 49, 53, 53, 98, 45, 112, 114, 111, 98, 101]⟩ ⟨#[122, 122, 115, 101, 116]⟩ (by decide) hmap7.isMap hmap8))
        go_ret
        exact ⟨by simp, ((below_drewN hbW6 _).trans (hb7.mono (by simpa using hbW6.size))).grown hgrow8 (by have := hb7.size; have := hbW6.size; simp at *; omega) (fun k hk => by cases hk; exact lo)⟩
      · obtain rfl : p0 = none := hN6.none
        obtain ⟨D, rfl, lD, cD⟩ := hD6.some
        obtain rfl : mpo = none := hM.none rfl
        go_wp2
        go_quiet (fail)
        go_wp2_with (first
          | (go_at_call 4; refine (ptr_any true name _).mono ?_; rintro e w7 ⟨po7, rfl, h7, hb7⟩; obtain ⟨Q7, rfl, hQ7, cQ7⟩ := h7.some; have hc7 : ∀ b o, b < w6.heap.size → w7.cell? ⟨b, o, none⟩ = w6.cell? ⟨b, o, none⟩ := fun b o h => hb7.cell (p := ⟨b, o, none⟩) h; have hmap7 := ownsMap_below (by exact hmap6) hb7 (by exact lMB); have hlr7 : ∀ ty, (Builtin.len_ #[27] ty #[.map (some MB)]).run Yba.prog w7 = .ok (.int .i64 (N : Nat)) w7 := fun ty => by rw [HN0.out]; exact hmap7.len Yba.underlying27 ty)
          | (at_mapUpdate; refine wpList_mapUpdate_own _ rfl _ _ _ 27 rfl 9 9 law Yba.underlying27 _ MB j Dm rfl hmap7 (by unfold maxLen; omega) _ _ _ rfl rfl (keyOf_string_mk (P := Yba.prog) (s := ⟨#[122, 122, 115, 53, 49, 53, 53, 98, 45, 112, 114, 111, 98, 101]⟩) Yba.underlying9 (by decide)) _ [] (plainElem_string (s := ⟨#[122, 122, 115, 101, 116]⟩) Yba.underlying9 (by decide)) ?_; intro w8 hmap8 hgrow8; have hlk := look_put ⟨#[122, 122, 115, 53, 49, 53, 53, 98, 45, 112, 114, 111, 98, 101]⟩ ⟨#[122, 122, 115, 101, 116]⟩ (by decide) hmap7.isMap hmap8))
        go_ret
        exact ⟨by simp, ((below_drewN hbW6 _).trans (hb7.mono (by simpa using hbW6.size))).grown hgrow8 (by have := hb7.size; have := hbW6.size; simp at *; omega) (fun k hk => by cases hk; exact lo)⟩
      · obtain ⟨Q, rfl, lQ, cQ⟩ := hN6.some
        obtain rfl : dpo = none := hD6.none
        obtain rfl : mpo = none := hM.none rfl
        go_wp2
        go_quiet (fail)
        go_wp2_with (first
          | (go_at_call 4; refine (ptr_any true name _).mono ?_; rintro e w7 ⟨po7, rfl, h7, hb7⟩; obtain ⟨Q7, rfl, hQ7, cQ7⟩ := h7.some; have hc7 : ∀ b o, b < w6.heap.size → w7.cell? ⟨b, o, none⟩ = w6.cell? ⟨b, o, none⟩ := fun b o h => hb7.cell (p := ⟨b, o, none⟩) h; have hmap7 := ownsMap_below (by exact hmap6) hb7 (by exact lMB); have hlr7 : ∀ ty, (Builtin.len_ #[27] ty #[.map (some MB)]).run Yba.prog w7 = .ok (.int .i64 (N : Nat)) w7 := fun ty => by rw [HN0.out]; exact hmap7.len Yba.underlying27 ty)
          | (at_mapUpdate; refine wpList_mapUpdate_own _ rfl _ _ _ 27 rfl 9 9 law Yba.underlying27 _ MB j Dm rfl hmap7 (by unfold maxLen; omega) _ _ _ rfl rfl (keyOf_string_mk (P := Yba.prog) (s := ⟨#[122, 122, 115, 53, 49, 53, 53, 98, 45, 112, 114, 111, 98, 101]⟩) Yba.underlying9 (by decide)) _ [] (plainElem_string (s := ⟨#[122, 122, 115, 101, 116]⟩) Yba.underlying9 (by decide)) ?_; intro w8 hmap8 hgrow8; have hlk := look_put ⟨#[122, 122, 115, 53, 49, 53, 53, 98, 45, 112, 114, 111, 98, 101]⟩ ⟨#[122, 122, 115, 101, 116]⟩ (by decide) hmap7.isMap hmap8))
        go_ret
        exact ⟨by simp, ((below_drewN hbW6 _).trans (hb7.mono (by simpa using hbW6.size))).grown hgrow8 (by have := hb7.size; have := hbW6.size; simp at *; omega) (fun k hk => by cases hk; exact lo)⟩
      · obtain ⟨Q, rfl, lQ, cQ⟩ := hN6.some
        obtain ⟨D, rfl, lD, cD⟩ := hD6.some
        obtain ⟨M, rfl, cM⟩ := hM.some
        have lM : M < w6.heap.size := World.block_lt_of_cell? _ _ cM
        go_wp2
        go_quiet (fail)
        go_wp2_with (first
          | (go_at_call 4; refine (ptr_any true name _).mono ?_; rintro e w7 ⟨po7, rfl, h7, hb7⟩; obtain ⟨Q7, rfl, hQ7, cQ7⟩ := h7.some; have hc7 : ∀ b o, b < w6.heap.size → w7.cell? ⟨b, o, none⟩ = w6.cell? ⟨b, o, none⟩ := fun b o h => hb7.cell (p := ⟨b, o, none⟩) h; have hmap7 := ownsMap_below (by exact hmap6) hb7 (by exact lMB); have hlr7 : ∀ ty, (Builtin.len_ #[27] ty #[.map (some MB)]).run Yba.prog w7 = .ok (.int .i64 (N : Nat)) w7 := fun ty => by rw [HN0.out]; exact hmap7.len Yba.underlying27 ty)
          | (at_mapUpdate; refine wpList_mapUpdate_own _ rfl _ _ _ 27 rfl 9 9 law Yba.underlying27 _ MB j Dm rfl hmap7 (by unfold maxLen; omega) _ _ _ rfl rfl (keyOf_string_mk (P := Yba.prog) (s := ⟨#[122, 122, 115, 53, 49, 53, 53, 98, 45, 112, 114, 111, 98, 101]⟩) Yba.underlying9 (by decide)) _ [] (plainElem_string (s := ⟨#[122, 122, 115, 101, 116]⟩) Yba.underlying9 (by decide)) ?_; intro w8 hmap8 hgrow8; have hlk := look_put ⟨#[122, 122, 115, 53, 49, 53, 53, 98, 45, 112, 114, 111, 98, 101]⟩ ⟨#[122, 122, 115, 101, 116]⟩ (by decide) hmap7.isMap hmap8))
        go_ret
        exact ⟨by simp, ((below_drewN hbW6 _).trans (hb7.mono (by simpa using hbW6.size))).grown hgrow8 (by have := hb7.size; have := hbW6.size; simp at *; omega) (fun k hk => by cases hk; exact lo)⟩
end Go.Proofs.Ybulkdbsu.lawS5155BWhole
