/- b5148a: the two C laws: closed facts of the dump, the bytes of a field, small lemmas on cells. -/
import Derived.Test.YbulkdbpaRows
import Derived.WalkKit
import Derived.ProofKit
import Derived.Laws.CopyOwn
import Derived.Lib.AppendStr
import Derived.WalkSpells
namespace Go.Proofs.Ybulkdbpa
open Go.RowKit
open Go.Lib (strCells)

theorem info5 : (Yba.prog.info? 5).map (fun i => (i.zero, i.size, i.bytes)) = some (some (.int .u8 0), 1, 1) := by kernel_rfl

/-- A byte as a cell. -/
abbrev u8 (n : Int) : Value := .int .u8 n

/-- The field ',"key":"s"' as cells. -/
def fld (k s : ByteArray) : List Value := [u8 44, u8 34] ++ strCells k ++ [u8 34, u8 58, u8 34] ++ strCells s ++ [u8 34]

theorem fld_length (k s : ByteArray) : (fld k s).length = k.size + s.size + 6 := by
  simp [fld, Lib.strCells_length]; omega

theorem strCells_take_succ (s : ByteArray) (j : Nat) (h : j < s.size) : (strCells s).take (j + 1) = (strCells s).take j ++ [u8 (s[j]).toNat] := by
  rw [List.take_succ_eq_append_getElem (by rw [Lib.strCells_length]; exact h)]
  congr 1
  simp [strCells]
  rfl

theorem strCells_take_all (s : ByteArray) : (strCells s).take s.size = strCells s := List.take_of_length_le (by rw [Lib.strCells_length]; exact Nat.le_refl _)

theorem u8s_oneCell (l : List Int) : ∀ u ∈ l.map u8, u.oneCell' = true := ints_oneCell .u8 l

theorem cells_two_new (w : World) (a b : Value) (t : TypeId) : ∀ j u, [a, b][j]? = some u → (w.alloc (.cells #[a, b] t)).cell? ((⟨w.heap.size, 0, none⟩ : Addr).add j) = some u := by
  intro j u hj
  match j, hj with
  | 0, hj => simp at hj; subst hj; simp [Addr.add]
  | 1, hj => simp at hj; subst hj; simp [Addr.add]

theorem cells_three_new (w : World) (a b c : Value) (t : TypeId) : ∀ j u, [a, b, c][j]? = some u → (w.alloc (.cells #[a, b, c] t)).cell? ((⟨w.heap.size, 0, none⟩ : Addr).add j) = some u := by
  intro j u hj
  match j, hj with
  | 0, hj => simp at hj; subst hj; simp [Addr.add]
  | 1, hj => simp at hj; subst hj; simp [Addr.add]
  | 2, hj => simp at hj; subst hj; simp [Addr.add]

/-- The cells of a block that was laid just now, its number a letter. -/
theorem cells_new_at (w : World) (cs : List Value) (t : TypeId) (H : Nat) (hH : w.heap.size = H) : ∀ j u, cs[j]? = some u → (w.alloc (.cells cs.toArray t)).cell? ((⟨H, 0, none⟩ : Addr).add j) = some u := by
  subst hH
  intro j u hj
  have hadd : (⟨w.heap.size, 0, none⟩ : Addr).add j = ⟨w.heap.size, j, none⟩ := by unfold Addr.add; split <;> simp_all
  rw [hadd, cell_of_row _ _ j cs.toArray t (0, 0) (heap_alloc_new w _)]
  simpa using hj

theorem take_u8_succ (xs : List Int) (j : Nat) (h : j < xs.length) : (xs.take (j + 1)).map u8 = (xs.take j).map u8 ++ [u8 (xs.getD j 0)] := by
  rw [List.take_succ_eq_append_getElem h, List.map_append]
  simp [List.getD, h]
end Go.Proofs.Ybulkdbpa
