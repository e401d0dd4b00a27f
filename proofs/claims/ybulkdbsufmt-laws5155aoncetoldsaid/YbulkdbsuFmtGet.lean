/- b5155aF: (*resolver).get (function 9) by its contracts: a name that has been fetched; one that has not, the fetch going well. -/
import Derived.Test.YbulkdbsuFmtFetch
import Derived.Maps.OwnSet
import Derived.Deep.RegionHeld3
import Derived.Deep.DrawnRows
namespace Go.Proofs.YbulkdbsuFmt
open Go.RowKit Go.Maps Go.WideMaps

theorem law9 : Keyed Ybaf.prog 9 := string_keyed Ybaf.underlying9
theorem zero66 (w : World) : (zeroValue 66).run Ybaf.prog w = .ok (.agg #[.pointer none, .nilIface]) w := by kernel_rfl

/-- An element of the cache is kept as it is. -/
def Rd (v : Value) : Option (DataW Value × List MemPlace) := some (.held v, [])

/-- The closure's value. -/
abbrev clo (X O U L M fm Bs : Nat) : Value := .func (Fn.func 7) #[] #[.pointer (some ⟨X, 0, none⟩), .pointer (some ⟨O, 0, none⟩), .pointer (some ⟨U, 0, none⟩), .pointer (some ⟨L, 0, none⟩), .pointer (some ⟨M, 0, none⟩), .pointer (some ⟨fm, 0, none⟩), .pointer (some ⟨Bs, 0, none⟩)]

theorem look_miss {w : World} {G n : Nat} {D : DataW Value} {u : ByteArray} (hu : u.size ≤ maxLen) (hmap : w.ownsMap Ybaf.prog 9 Rd G n D) (hh : Maps.has D (.string u.data.toList) = false) :
    (Instr.lookup 48 (.map (some G)) (.string u) true).run Ybaf.prog w = .ok (.tuple #[.agg #[.pointer none, .nilIface], .bool false]) w := by
  obtain ⟨v, ps, hrun, hv⟩ := hmap.look_ok law9 Ybaf.underlying48 (zero66 w) (zd := .held (.agg #[.pointer none, .nilIface])) (zp := []) rfl (keyOf_string_mk (P := Ybaf.prog) Ybaf.underlying9 hu)
  rw [atKey_of_not_has hh] at hv
  simp [Rd] at hv
  rw [hh, hv.1] at hrun
  exact hrun

theorem look_hit {w : World} {G n : Nat} {D : DataW Value} {u : ByteArray} {x : Value} (hu : u.size ≤ maxLen) (hmap : w.ownsMap Ybaf.prog 9 Rd G n D) (hh : Maps.has D (.string u.data.toList) = true) (hx : ∀ zd, D.atKey (.string u.data.toList) zd = .held x) :
    (Instr.lookup 48 (.map (some G)) (.string u) true).run Ybaf.prog w = .ok (.tuple #[x, .bool true]) w := by
  obtain ⟨v, ps, hrun, hv⟩ := hmap.look_ok law9 Ybaf.underlying48 (zero66 w) (zd := .held (.agg #[.pointer none, .nilIface])) (zp := []) rfl (keyOf_string_mk (P := Ybaf.prog) Ybaf.underlying9 hu)
  rw [hx] at hv
  simp [Rd] at hv
  rw [hh, hv.1] at hrun
  exact hrun

set_option maxHeartbeats 400000 in
theorem get_hit_nil (R G n : Nat) (D : DataW Value) (u : ByteArray) (r : Addr) (w : World) (hu : u.size ≤ maxLen) (hR : w.cell? ⟨R, 2, none⟩ = some (.map (some G))) (hmap : w.ownsMap Ybaf.prog 9 Rd G n D) (hh : Maps.has D (.string u.data.toList) = true)
    (hx : ∀ zd, D.atKey (.string u.data.toList) zd = .held (.agg #[.pointer (some r), .nilIface])) :
    Calls Ybaf.prog 9 #[.pointer (some ⟨R, 0, none⟩), .string u] w fun e w' => e = .returned (.tuple #[.pointer (some r), .nilIface]) ∧ Below w.heap.size w w' := by
  have hl := look_hit hu hmap hh hx
  go_enter Ybaf.func9, Ybaf.ntmps9
  go_wp2
  go_quiet (fail)
  go_wp2
  go_ret2
  exact ⟨rfl, below_drewN ((Below.refl _ _).alloc (Nat.le_refl _) _) _⟩

set_option maxHeartbeats 400000 in
theorem get_hit_err (R G n : Nat) (D : DataW Value) (u : ByteArray) (r q : Addr) (w : World) (hu : u.size ≤ maxLen) (hR : w.cell? ⟨R, 2, none⟩ = some (.map (some G))) (hmap : w.ownsMap Ybaf.prog 9 Rd G n D) (hh : Maps.has D (.string u.data.toList) = true)
    (hx : ∀ zd, D.atKey (.string u.data.toList) zd = .held (.agg #[.pointer (some r), .iface 74 (.pointer (some q))])) :
    Calls Ybaf.prog 9 #[.pointer (some ⟨R, 0, none⟩), .string u] w fun e w' => e = .returned (.tuple #[.pointer (some r), .iface 74 (.pointer (some q))]) ∧ Below w.heap.size w w' := by
  have hl := look_hit hu hmap hh hx
  go_enter Ybaf.func9, Ybaf.ntmps9
  go_wp2
  go_quiet (fail)
  go_wp2
  go_ret2
  exact ⟨rfl, below_drewN ((Below.refl _ _).alloc (Nat.le_refl _) _) _⟩
end Go.Proofs.YbulkdbsuFmt
