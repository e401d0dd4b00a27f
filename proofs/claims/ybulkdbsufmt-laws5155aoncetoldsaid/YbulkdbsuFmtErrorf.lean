/- b5155aF: fmt.Errorf at the one format (function 12) by its contract. After the guide's Checkedsum texts. -/
import Derived.Test.YbulkdbsuFmtFacts
import Derived.WalkKit
import Derived.WalkSpells
import Derived.RowKitTokens
namespace Go.Proofs.YbulkdbsuFmt
open Go.RowKit Go.Extern.Stop Go.Stop Go.Extern

/-- The text that fmt's stop gives for the three operands. -/
def errText (F : Interp) (s u t : ByteArray) : ByteArray := FmtStop.textOf (F "fmt.errorf" [[37, 119, 32, 37, 115, 58, 32, 37, 118], plain62, s.data.toList, shape9, FmtStop.pack u.data.toList, plain62, t.data.toList] 0)

set_option maxHeartbeats 800000 in
set_option maxRecDepth 100000 in
/-- fmt.Errorf at its one format: a new fmt.wrapError that holds the first operand itself. -/
theorem errorf_any (F : Interp) (a b : Addr) (s u t : ByteArray) (blk : Nat) (w : World) (hF : F.answers w.tape)
    (hc0 : w.cell? ⟨blk, 0, none⟩ = some (.iface 62 (.pointer (some a)))) (hc1 : w.cell? ⟨blk, 1, none⟩ = some (.iface 9 (.string u))) (hc2 : w.cell? ⟨blk, 2, none⟩ = some (.iface 62 (.pointer (some b))))
    (hs : w.cell? a = some (.string s)) (ht : w.cell? b = some (.string t)) :
    Calls Ybaf.prog 12 #[.string ⟨#[37, 119, 32, 37, 115, 58, 32, 37, 118]⟩, .slice (some ⟨blk, 0, none⟩) 3 3] w fun e w' =>
      e = .returned (.iface 74 (.pointer (some ⟨w.heap.size, 0, none⟩))) ∧ w' = (w.alloc (.cells #[.string (errText F s u t), .iface 62 (.pointer (some a))] 112)).drew := by
  have hF' := answers_open hF
  have o1 := opPlain62_119 "fmt.errorf" a s w hs
  have o2 := opPlain62_118 "fmt.errorf" b t w ht
  have o3 := op9_115w "fmt.errorf" u w
  have k1 := call14
  have k2 := guardF
  have k3 := fmt0
  have k4 := fmt0r
  have k5 := ptr62
  have k6 := elem62
  have k7 := ptr74
  have k8 := elem74
  have k9 := isError62
  have k10 := isError74
  go_enter Ybaf.func12, Ybaf.ntmps12
  go_wp2
  go_ret
  exact ⟨rfl, rfl⟩
end Go.Proofs.YbulkdbsuFmt
