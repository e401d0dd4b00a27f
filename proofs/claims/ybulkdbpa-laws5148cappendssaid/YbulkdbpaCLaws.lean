/- b5148a: the contracts of expect and text with letters for lengths and bytes; what the two C laws share. -/
import Derived.Test.YbulkdbpaExpect
import Derived.Test.YbulkdbpaText
namespace Go.Proofs.Ybulkdbpa
open Go.RowKit
open Go.Lib (strCells)

theorem strCells_ints (s : ByteArray) : strCells s = (s.data.toList.map fun b => (b.toNat : Int)).map u8 := by simp [strCells]

/-- The field's bytes as integers. -/
def fldI (k s : ByteArray) : List Int := [44, 34] ++ (k.data.toList.map fun b => (b.toNat : Int)) ++ [34, 58, 34] ++ (s.data.toList.map fun b => (b.toNat : Int)) ++ [34]
theorem fld_ints (k s : ByteArray) : fld k s = (fldI k s).map u8 := by simp [fld, fldI, strCells_ints]
theorem fldI_length (k s : ByteArray) : (fldI k s).length = k.size + s.size + 6 := by
  have h := fld_length k s
  rw [fld_ints, List.length_map] at h
  exact h

theorem own_cells {w : World} {base g n cap : Nat} {L : List Int} (h : w.ownsRow base 5 1 (.slice (some ⟨g, 0, none⟩) n cap) n (L.map u8)) : ∀ j, j < n → w.cell? ⟨g, j, none⟩ = some (u8 (L.getD j 0)) := by
  intro j hj
  have hl : (L.map u8).length = n * 1 := h.1
  rw [h.cellAt j (by omega)]
  have hj' : j < L.length := by simp at hl; omega
  simp [List.getD, hj']

theorem expect_at (ao : Option Addr) (b off len cap : Nat) (xs : List Int) (k s : ByteArray) (w : World) (N H : Nat) (L : List Int) (hN : len + k.size + s.size + 6 = N) (hH : w.heap.size = H) (hL : xs ++ fldI k s = L) (hlen : xs.length = len) (hl : len ≤ 20000) (hk : k.size ≤ 4096) (hs : s.size ≤ 4096) (hao : 0 < len → ao = some ⟨b, off, none⟩ ∧ b < w.heap.size)
    (hc : ∀ j, j < len → w.cell? ⟨b, off + j, none⟩ = some (.int .u8 (xs.getD j 0))) :
    Calls Yba.prog 8 #[.slice ao len cap, .string k, .string s] w fun e w' =>
      e = .returned (.slice (some ⟨H, 0, none⟩) N N) ∧ H < w'.heap.size ∧ (∀ j, j < N → w'.cell? ⟨H, j, none⟩ = some (u8 (L.getD j 0))) ∧ Below H w w' := by
  subst hN hH hL
  refine (expect_any ao b off len cap xs k s w hlen hl hk hs hao hc).mono fun e w' ⟨he, hown, hb⟩ => ⟨he, (hown.lt _ rfl).2, ?_, hb⟩
  rw [fld_ints, ← List.map_append] at hown
  exact own_cells hown

theorem text_at (c0 c1 c2 c3 c4 c6 : Value) (base T : Nat) (w : World) (v : Value) (n : Nat) (xs : List Int) (k s : ByteArray) (N : Nat) (L : List Int) (hN : n + k.size + s.size + 6 = N) (hLL : xs ++ fldI k s = L) (hL : Lin c0 c1 c2 c3 c4 c6 base T w v n (xs.map u8)) (hn : n ≤ 12000) (hk : k.size ≤ 4096) (hs : s.size ≤ 4096) :
    Calls Yba.prog 7 #[.pointer (some ⟨T, 0, none⟩), .string k, .string s] w fun e w' => e = .returned (.tuple #[]) ∧ ∃ g cap, Lin c0 c1 c2 c3 c4 c6 base T w' (.slice (some ⟨g, 0, none⟩) N cap) N (L.map u8) ∧ Below base w w' := by
  subst hN hLL
  refine (text_any c0 c1 c2 c3 c4 c6 base T w v n _ k s hL hn hk hs).mono fun e w' ⟨he, g, cap, h, hb⟩ => ⟨he, g, cap, ?_, hb⟩
  rw [fld_ints, ← List.map_append] at h
  exact h

/-- Old cells read as before behind a 'Below'. -/
theorem bcell {B : Nat} {W w1 : World} (hb : Below B W w1) : (∀ b o, b < B → w1.cell? ⟨b, o, none⟩ = W.cell? ⟨b, o, none⟩) := fun b o h => hb.cell (p := ⟨b, o, none⟩) h
end Go.Proofs.Ybulkdbpa
