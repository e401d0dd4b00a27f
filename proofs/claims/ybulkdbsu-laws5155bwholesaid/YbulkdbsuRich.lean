/- b5155a: api.zzs5155bptr (function 4), api.richCallData (function 5) by their contracts. -/
import Derived.Test.YbulkdbsuRows
import Derived.WalkKit
import Derived.ProofKit
import Derived.WalkSpells
import Derived.Laws.Pointers
import Derived.Deep.QuietTactic
import Derived.BigQuiet
import Derived.WalkSmall
import Derived.BigRegion
namespace Go.Proofs.Ybulkdbsu
open Go.RowKit

/-- The pointer that zzs5155bptr(has, s) hands back: nil, or it leads to s. -/
def PtrIs (w : World) (po : Option Addr) (has : Bool) (s : ByteArray) : Prop :=
  (has = false ∧ po = none) ∨ (has = true ∧ ∃ Q, po = some ⟨Q, 0, none⟩ ∧ Q < w.heap.size ∧ w.cell? ⟨Q, 0, none⟩ = some (.string s))

theorem PtrIs.below {w w' : World} {po : Option Addr} {has : Bool} {s : ByteArray} (h : PtrIs w po has s) (hb : Below w.heap.size w w') : PtrIs w' po has s := by
  rcases h with h | ⟨h1, Q, h2, h3, h4⟩
  · exact .inl h
  · exact .inr ⟨h1, Q, h2, Nat.lt_of_lt_of_le h3 hb.size, (hb.cell (p := ⟨Q, 0, none⟩) h3).trans h4⟩

theorem ptr_any (has : Bool) (s : ByteArray) (w : World) : Calls Yba.prog 4 #[.bool has, .string s] w fun e w' => ∃ po, e = .returned (.pointer po) ∧ PtrIs w' po has s ∧ Below w.heap.size w w' := by
  cases has
  · go_enter Yba.func4, Yba.ntmps4
    go_wp2
    go_ret
    exact ⟨none, rfl, .inl ⟨rfl, rfl⟩, Below.refl _ _⟩
  · go_enter Yba.func4, Yba.ntmps4
    go_wp2
    go_ret
    exact ⟨some ⟨w.heap.size, 0, none⟩, rfl, .inr ⟨rfl, w.heap.size, rfl, by simp, by simp⟩, (Below.refl _ _).alloc (Nat.le_refl _) _⟩

/-- The report in block R. -/
structure Report (w : World) (R : Nat) (p0 p1 p2 : Option Addr) (v : Bool) (mo : Option Nat) : Prop where
  c0 : w.cell? ⟨R, 0, none⟩ = some (.pointer p0)
  c1 : w.cell? ⟨R, 1, none⟩ = some (.pointer p1)
  c2 : w.cell? ⟨R, 2, none⟩ = some (.pointer p2)
  c3 : w.cell? ⟨R, 3, none⟩ = some (.bool v)
  c4 : w.cell? ⟨R, 4, none⟩ = some (.map mo)

theorem Report.lt {w : World} {R : Nat} {p0 p1 p2 : Option Addr} {v : Bool} {mo : Option Nat} (h : Report w R p0 p1 p2 v mo) : R < w.heap.size := World.block_lt_of_cell? _ _ h.c0
theorem Report.below {w w' : World} {R : Nat} {p0 p1 p2 : Option Addr} {v : Bool} {mo : Option Nat} (h : Report w R p0 p1 p2 v mo) (hb : Below w.heap.size w w') : Report w' R p0 p1 p2 v mo :=
  have hl := h.lt
  ⟨(hb.cell (p := ⟨R, 0, none⟩) hl).trans h.c0, (hb.cell (p := ⟨R, 1, none⟩) hl).trans h.c1, (hb.cell (p := ⟨R, 2, none⟩) hl).trans h.c2, (hb.cell (p := ⟨R, 3, none⟩) hl).trans h.c3, (hb.cell (p := ⟨R, 4, none⟩) hl).trans h.c4⟩

theorem rich_nil (dpo : Option Addr) (w : World) : Calls Yba.prog 5 #[.pointer none, .pointer dpo] w fun e w' => e = .returned (.pointer none) ∧ w' = w := by
  go_enter Yba.func5, Yba.ntmps5
  go_wp2
  go_ret
  exact ⟨rfl, rfl⟩

set_option maxHeartbeats 800000 in
theorem rich_both (R : Nat) (Q D : Nat) (p1 p2 : Option Addr) (v : Bool) (mo : Option Nat) (name disp : ByteArray) (w : World) (hR : Report w R (some ⟨Q, 0, none⟩) p1 p2 v mo) (hQ : w.cell? ⟨Q, 0, none⟩ = some (.string name)) (hD : w.cell? ⟨D, 0, none⟩ = some (.string disp)) :
    Calls Yba.prog 5 #[.pointer (some ⟨R, 0, none⟩), .pointer (some ⟨D, 0, none⟩)] w fun e w' => ∃ S M, e = .returned (.pointer (some ⟨S, 0, none⟩)) ∧ Report w' S (some ⟨Q, 0, none⟩) p1 p2 v mo ∧ w'.cell? ⟨S, 5, none⟩ = some (.pointer (some ⟨M, 0, none⟩)) ∧ w'.cell? ⟨M, 0, none⟩ = some (.bool (name.toList == disp.toList)) ∧ Below w.heap.size w w' := by
  obtain ⟨c0, c1, c2, c3, c4⟩ := hR
  have n0 := World.block_lt_of_cell? _ _ c0
  have nQ := World.block_lt_of_cell? _ _ hQ
  have nD := World.block_lt_of_cell? _ _ hD
  go_enter Yba.func5, Yba.ntmps5
  go_wp2
  go_region
  go_wp2
  go_region
  go_wp2
  go_ret
  refine ⟨w.heap.size, w.heap.size + 1, rfl, ⟨?_, ?_, ?_, ?_, ?_⟩, ?_, ?_, ?_⟩
  iterate 7 simp
  exact ((((Below.refl _ _).alloc (Nat.le_refl _) _).alloc (by simp) _).drew).drew

set_option maxHeartbeats 800000 in
theorem rich_noname (R : Nat) (p1 p2 dpo : Option Addr) (v : Bool) (mo : Option Nat) (w : World) (hR : Report w R none p1 p2 v mo) :
    Calls Yba.prog 5 #[.pointer (some ⟨R, 0, none⟩), .pointer dpo] w fun e w' => ∃ S, e = .returned (.pointer (some ⟨S, 0, none⟩)) ∧ Report w' S none p1 p2 v mo ∧ w'.cell? ⟨S, 5, none⟩ = some (.pointer none) ∧ Below w.heap.size w w' := by
  obtain ⟨c0, c1, c2, c3, c4⟩ := hR
  have n0 := World.block_lt_of_cell? _ _ c0
  go_enter Yba.func5, Yba.ntmps5
  go_wp2
  go_region
  go_wp2
  go_ret
  refine ⟨w.heap.size, rfl, ⟨?_, ?_, ?_, ?_, ?_⟩, ?_, ?_⟩
  iterate 6 simp
  exact (((Below.refl _ _).alloc (Nat.le_refl _) _).drew)

set_option maxHeartbeats 800000 in
theorem rich_nodisp (R : Nat) (Q : Nat) (p1 p2 : Option Addr) (v : Bool) (mo : Option Nat) (w : World) (hR : Report w R (some ⟨Q, 0, none⟩) p1 p2 v mo) :
    Calls Yba.prog 5 #[.pointer (some ⟨R, 0, none⟩), .pointer none] w fun e w' => ∃ S, e = .returned (.pointer (some ⟨S, 0, none⟩)) ∧ Report w' S (some ⟨Q, 0, none⟩) p1 p2 v mo ∧ w'.cell? ⟨S, 5, none⟩ = some (.pointer none) ∧ Below w.heap.size w w' := by
  obtain ⟨c0, c1, c2, c3, c4⟩ := hR
  have n0 := World.block_lt_of_cell? _ _ c0
  go_enter Yba.func5, Yba.ntmps5
  go_wp2
  go_region
  go_wp2
  go_ret
  refine ⟨w.heap.size, rfl, ⟨?_, ?_, ?_, ?_, ?_⟩, ?_, ?_⟩
  iterate 6 simp
  exact (((Below.refl _ _).alloc (Nat.le_refl _) _).drew)

/-- What lies at the answer's name_matches. -/
def MatchIs (w : World) (mpo : Option Addr) (hasName hasDisp : Bool) (name disp : ByteArray) : Prop :=
  ((hasName && hasDisp) = false ∧ mpo = none) ∨ ((hasName = true ∧ hasDisp = true) ∧ ∃ M, mpo = some ⟨M, 0, none⟩ ∧ w.cell? ⟨M, 0, none⟩ = some (.bool (name.toList == disp.toList)))

theorem PtrIs.none {w : World} {po : Option Addr} {s : ByteArray} (h : PtrIs w po false s) : po = Option.none := by
  rcases h with ⟨_, h⟩ | ⟨h, _⟩
  · exact h
  · cases h
theorem PtrIs.some {w : World} {po : Option Addr} {s : ByteArray} (h : PtrIs w po true s) : ∃ Q, po = Option.some ⟨Q, 0, Option.none⟩ ∧ Q < w.heap.size ∧ w.cell? ⟨Q, 0, Option.none⟩ = Option.some (.string s) := by
  rcases h with ⟨h, _⟩ | ⟨_, h⟩
  · cases h
  · exact h
theorem MatchIs.none {w : World} {mpo : Option Addr} {a b : Bool} {name disp : ByteArray} (h : MatchIs w mpo a b name disp) (hf : (a && b) = false) : mpo = Option.none := by
  rcases h with ⟨_, h⟩ | ⟨⟨rfl, rfl⟩, _⟩
  · exact h
  · cases hf
theorem MatchIs.some {w : World} {mpo : Option Addr} {name disp : ByteArray} (h : MatchIs w mpo true true name disp) : ∃ M, mpo = Option.some ⟨M, 0, Option.none⟩ ∧ w.cell? ⟨M, 0, Option.none⟩ = Option.some (.bool (name.toList == disp.toList)) := by
  rcases h with ⟨h, _⟩ | ⟨_, h⟩
  · cases h
  · exact h

theorem rich_any (R : Nat) (p0 p1 p2 dpo : Option Addr) (v : Bool) (mo : Option Nat) (hasName hasDisp : Bool) (name disp : ByteArray) (w : World) (hR : Report w R p0 p1 p2 v mo) (hN : PtrIs w p0 hasName name) (hD : PtrIs w dpo hasDisp disp) :
    Calls Yba.prog 5 #[.pointer (some ⟨R, 0, none⟩), .pointer dpo] w fun e w' => ∃ S mpo, e = .returned (.pointer (some ⟨S, 0, none⟩)) ∧ Report w' S p0 p1 p2 v mo ∧ w'.cell? ⟨S, 5, none⟩ = some (.pointer mpo) ∧ MatchIs w' mpo hasName hasDisp name disp ∧ Below w.heap.size w w' := by
  rcases hN with ⟨rfl, rfl⟩ | ⟨rfl, Q, rfl, hQ, cQ⟩
  · refine (rich_noname R p1 p2 dpo v mo w hR).mono ?_
    rintro e w' ⟨S, he, h1, h2, h3⟩
    exact ⟨S, none, he, h1, h2, .inl ⟨rfl, rfl⟩, h3⟩
  · rcases hD with ⟨rfl, rfl⟩ | ⟨rfl, D, rfl, hD, cD⟩
    · refine (rich_nodisp R Q p1 p2 v mo w hR).mono ?_
      rintro e w' ⟨S, he, h1, h2, h3⟩
      exact ⟨S, none, he, h1, h2, .inl ⟨rfl, rfl⟩, h3⟩
    · refine (rich_both R Q D p1 p2 v mo name disp w hR cQ cD).mono ?_
      rintro e w' ⟨S, M, he, h1, h2, h3, h4⟩
      exact ⟨S, _, he, h1, h2, .inr ⟨⟨rfl, rfl⟩, M, rfl, h3⟩, h4⟩
end Go.Proofs.Ybulkdbsu
