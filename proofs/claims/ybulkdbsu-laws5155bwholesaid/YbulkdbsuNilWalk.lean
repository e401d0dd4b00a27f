/- b5155a: api.LawS5155BWhole (function 3): the walks without a map: a nil report; a nil integrity. -/
import Derived.Test.YbulkdbsuRich
import Derived.LaidEqlPtr
namespace Go.Proofs.Ybulkdbsu.lawS5155BWhole
open Go.RowKit

theorem info9 : (Yba.prog.info? 9).map (fun i => (i.zero, i.size, i.bytes)) = some (some (.string ByteArray.empty), 1, 16) := by kernel_rfl

/-- A pointer is not other than itself. -/
theorem neq_self (w : World) (po : Option Addr) : (binOp .neq 23 (.pointer po) (.pointer po)).run Yba.prog w = .ok (.bool false) w := by
  obtain ⟨j, hj, _, _, _⟩ := info_parts info9
  cases po with
  | none => rw [run_neq_pointer_nil w 23 none (by rw [Yba.underlying23]; rfl)]; rfl
  | some a =>
    have h : ∀ d : Nat, (Op.equalIn (d + 1) 23 (.pointer (some a)) (.pointer (some a))).run Yba.prog w = .ok true w := fun d => by
      simp [Op.equalIn, run_underlying Yba.underlying23, sizeOf, typeInfo, hj, run_sameAddr_same]
    simp only [binOp]
    simp [Op.equal, Op.maxDepth, h 9999]

/-- Old cells read as before behind a 'Below'. -/
theorem bcell {B : Nat} {W w1 : World} (hb : Below B W w1) : ∀ b o, b < B → w1.cell? ⟨b, o, none⟩ = W.cell? ⟨b, o, none⟩ := fun b o h => hb.cell (p := ⟨b, o, none⟩) h

set_option maxHeartbeats 800000 in
set_option maxRecDepth 100000 in
theorem walk_nilreport (hasName hasAPN hasCRN hasDisp : Bool) (name apn crn disp : ByteArray) (ver nilI : Bool) (ai : Option Addr) (n cap : Nat) (w : World) (hn : n ≤ 1024) :
    Calls Yba.prog 3 #[.bool true, .bool hasName, .bool hasAPN, .bool hasCRN, .bool hasDisp, .string name, .string apn, .string crn, .string disp, .bool ver, .bool nilI, .slice ai n cap] w fun e w' => e = .returned (.bool true) ∧ Below w.heap.size w w' := by
  have d0 : decide ((1024 : Int) < (n : Int)) = false := decide_eq_false (by omega)
  go_enter Yba.func3, Yba.ntmps3
  go_wp2_with fail
  refine (ptr_any hasDisp disp w).mono ?_
  rintro e w1 ⟨dpo, rfl, _, hb1⟩
  go_wp2_with fail
  refine (rich_nil dpo w1).mono ?_
  rintro e w2 ⟨rfl, rfl⟩
  go_wp2
  go_ret
  exact ⟨rfl, hb1⟩

set_option maxHeartbeats 2000000 in
set_option maxRecDepth 100000 in
theorem walk_nilint (hasName hasAPN hasCRN hasDisp : Bool) (name apn crn disp : ByteArray) (ver : Bool) (ai : Option Addr) (n cap : Nat) (w : World) (hn : n ≤ 1024) :
    Calls Yba.prog 3 #[.bool false, .bool hasName, .bool hasAPN, .bool hasCRN, .bool hasDisp, .string name, .string apn, .string crn, .string disp, .bool ver, .bool true, .slice ai n cap] w fun e w' => e = .returned (.bool true) ∧ Below w.heap.size w w' := by
  have d0 : decide ((1024 : Int) < (n : Int)) = false := decide_eq_false (by omega)
  have q23 := neq_self
  have q27 : ∀ (w : World) (r : Option Nat), (binOp .eql 27 (.map r) (.map none)).run Yba.prog w = .ok (.bool r.isNone) w := fun w r => run_eql_map_nil w _ _ _ r Yba.underlying27
  go_enter Yba.func3, Yba.ntmps3
  go_wp2_with fail
  refine (ptr_any hasDisp disp w).mono ?_
  rintro e w1 ⟨dpo, rfl, hD, hb1⟩
  go_wp2_with fail
  refine (ptr_any hasName name w1).mono ?_
  rintro e w2 ⟨p0, rfl, hN, hb2⟩
  go_wp2_with fail
  refine (ptr_any hasAPN apn w2).mono ?_
  rintro e w3 ⟨p1, rfl, _, hb3⟩
  go_wp2_with fail
  refine (ptr_any hasCRN crn w3).mono ?_
  rintro e w4 ⟨p2, rfl, _, hb4⟩
  go_wp2_with fail
  have hbo : Below w4.heap.size w4 (w4.alloc (.cells #[.pointer p0, .pointer p1, .pointer p2, .bool ver, .map none] 30)) := (Below.refl _ _).alloc (Nat.le_refl _) _
  have hD5 := (((hD.below hb2).below hb3).below hb4).below hbo
  have hN5 := ((hN.below hb3).below hb4).below hbo
  have hR5 : Report (w4.alloc (.cells #[.pointer p0, .pointer p1, .pointer p2, .bool ver, .map none] 30)) w4.heap.size p0 p1 p2 ver none := ⟨by simp, by simp, by simp, by simp, by simp⟩
  have hbW5 : Below w.heap.size w (w4.alloc (.cells #[.pointer p0, .pointer p1, .pointer p2, .bool ver, .map none] 30)) :=
    (((hb1.trans (hb2.mono hb1.size)).trans (hb3.mono (Nat.le_trans hb1.size hb2.size))).trans (hb4.mono (Nat.le_trans (Nat.le_trans hb1.size hb2.size) hb3.size))).trans (hbo.mono (Nat.le_trans (Nat.le_trans (Nat.le_trans hb1.size hb2.size) hb3.size) hb4.size))
  refine (rich_any w4.heap.size p0 p1 p2 dpo ver none hasName hasDisp name disp _ hR5 hN5 hD5).mono ?_
  rintro e w6 ⟨S, mpo, rfl, hS, cS5, hM, hb6⟩
  have hR6 := hR5.below hb6
  have hN6 := hN5.below hb6
  have hD6 := hD5.below hb6
  have hbW6 : Below w.heap.size w w6 := hbW5.trans (hb6.mono hbW5.size)
  clear hD hN hb1 hb2 hb3 hb4 hbo hD5 hN5 hR5 hbW5 hb6
  generalize w4.heap.size = R at *
  obtain ⟨r0, r1, r2, r3, r4⟩ := hR6
  obtain ⟨s0, s1, s2, s3, s4⟩ := hS
  have lR : R < w6.heap.size := World.block_lt_of_cell? _ _ r0
  have lS : S < w6.heap.size := World.block_lt_of_cell? _ _ s0
  cases hasName <;> cases hasDisp
  · obtain rfl : p0 = none := hN6.none
    obtain rfl : dpo = none := hD6.none
    obtain rfl : mpo = none := hM.none rfl
    go_wp2
    go_quiet (fail)
    go_wp2_with (go_at_call 4; refine (ptr_any true name _).mono ?_; rintro e w7 ⟨po7, rfl, h7, hb7⟩; obtain ⟨Q7, rfl, hQ7, cQ7⟩ := h7.some; have hc7 : ∀ b o, b < w6.heap.size → w7.cell? ⟨b, o, none⟩ = w6.cell? ⟨b, o, none⟩ := fun b o h => hb7.cell (p := ⟨b, o, none⟩) h)
    go_ret
    exact ⟨rfl, (below_drewN hbW6 _).trans (hb7.mono (by simpa using hbW6.size))⟩
  · obtain rfl : p0 = none := hN6.none
    obtain ⟨D, rfl, lD, cD⟩ := hD6.some
    obtain rfl : mpo = none := hM.none rfl
    go_wp2
    go_quiet (fail)
    go_wp2_with (go_at_call 4; refine (ptr_any true name _).mono ?_; rintro e w7 ⟨po7, rfl, h7, hb7⟩; obtain ⟨Q7, rfl, hQ7, cQ7⟩ := h7.some; have hc7 : ∀ b o, b < w6.heap.size → w7.cell? ⟨b, o, none⟩ = w6.cell? ⟨b, o, none⟩ := fun b o h => hb7.cell (p := ⟨b, o, none⟩) h)
    go_ret
    exact ⟨rfl, (below_drewN hbW6 _).trans (hb7.mono (by simpa using hbW6.size))⟩
  · obtain ⟨Q, rfl, lQ, cQ⟩ := hN6.some
    obtain rfl : dpo = none := hD6.none
    obtain rfl : mpo = none := hM.none rfl
    go_wp2
    go_quiet (fail)
    go_wp2_with (go_at_call 4; refine (ptr_any true name _).mono ?_; rintro e w7 ⟨po7, rfl, h7, hb7⟩; obtain ⟨Q7, rfl, hQ7, cQ7⟩ := h7.some; have hc7 : ∀ b o, b < w6.heap.size → w7.cell? ⟨b, o, none⟩ = w6.cell? ⟨b, o, none⟩ := fun b o h => hb7.cell (p := ⟨b, o, none⟩) h)
    go_ret
    exact ⟨rfl, (below_drewN hbW6 _).trans (hb7.mono (by simpa using hbW6.size))⟩
  · obtain ⟨Q, rfl, lQ, cQ⟩ := hN6.some
    obtain ⟨D, rfl, lD, cD⟩ := hD6.some
    obtain ⟨M, rfl, cM⟩ := hM.some
    have lM : M < w6.heap.size := World.block_lt_of_cell? _ _ cM
    go_wp2
    go_quiet (fail)
    go_wp2_with (go_at_call 4; refine (ptr_any true name _).mono ?_; rintro e w7 ⟨po7, rfl, h7, hb7⟩; obtain ⟨Q7, rfl, hQ7, cQ7⟩ := h7.some; have hc7 : ∀ b o, b < w6.heap.size → w7.cell? ⟨b, o, none⟩ = w6.cell? ⟨b, o, none⟩ := fun b o h => hb7.cell (p := ⟨b, o, none⟩) h)
    go_ret
    exact ⟨rfl, (below_drewN hbW6 _).trans (hb7.mono (by simpa using hbW6.size))⟩
end Go.Proofs.Ybulkdbsu.lawS5155BWhole
