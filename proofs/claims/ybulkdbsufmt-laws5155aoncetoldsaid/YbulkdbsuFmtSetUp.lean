/- b5155aF: what the law's set-up leaves. -/
import Derived.Test.YbulkdbsuFmtInv
namespace Go.Proofs.YbulkdbsuFmt
open Go.RowKit Go.Maps Go.WideMaps

/-- The law's four names. -/
def names : Nat → ByteArray
  | 0 => ⟨#[104, 116, 116, 112, 115, 58, 47, 47, 97, 46, 101, 120, 97, 109, 112, 108, 101, 47, 120]⟩
  | 1 => ⟨#[104, 116, 116, 112, 115, 58, 47, 47, 98, 46, 101, 120, 97, 109, 112, 108, 101, 47, 121]⟩
  | 2 => ⟨#[]⟩
  | _ => ⟨#[104, 116, 116, 112, 115, 58, 47, 47, 97, 46, 101, 120, 97, 109, 112, 108, 101, 47, 120, 35]⟩

theorem names_apart : Apart names := by
  intro i j hi hj hne
  have : i = 0 ∨ i = 1 ∨ i = 2 ∨ i = 3 := by omega
  have : j = 0 ∨ j = 1 ∨ j = 2 ∨ j = 3 := by omega
  rcases ‹i = 0 ∨ _› with rfl | rfl | rfl | rfl <;> rcases ‹j = 0 ∨ _› with rfl | rfl | rfl | rfl <;> first | exact absurd rfl hne | (show (_ : Bool) = false; kernel_rfl)
theorem names_keys : ∀ i j, i < 4 → j < 4 → i ≠ j → kl names i ≠ kl names j := by
  intro i j hi hj hne
  have : i = 0 ∨ i = 1 ∨ i = 2 ∨ i = 3 := by omega
  have : j = 0 ∨ j = 1 ∨ j = 2 ∨ j = 3 := by omega
  rcases ‹i = 0 ∨ _› with rfl | rfl | rfl | rfl <;> rcases ‹j = 0 ∨ _› with rfl | rfl | rfl | rfl <;> first | exact absurd rfl hne | simp [kl, names]
theorem names_small : ∀ k, (names k).size ≤ maxLen := by
  intro k
  unfold names maxLen
  split <;> simp [ByteArray.size]

def setUp (w : World) (m : Int) (fm U V X M L O E Bs G : Nat) : World :=
  (((((((((((w.alloc (.cells #[.int .u8 m] 5)).alloc (.cells #[.string (names 0), .string (names 1), .string (names 2), .string (names 3)] 23)).alloc (.cells #[.iface 61 (.agg #[]), .iface 29 (.agg #[]), .iface 3 (.int .i64 7)] 58)).alloc (.cells #[.iface 56 (.pointer (some ⟨V, 0, none⟩))] 25)).alloc (.cells #[.pointer none, .pointer none, .pointer none, .pointer none] 31)).alloc (.cells #[.slice none 0 0] 32)).alloc (.cells #[.bool true] 4)).alloc (.cells #[.string ⟨#[100, 111, 119, 110]⟩] 64)).alloc (.cells #[.iface 62 (.pointer (some ⟨E, 0, none⟩))] 34)).alloc (.map #[] 0)).alloc (.cells #[.iface 56 (.pointer (some ⟨V, 0, none⟩)), clo X O U L M fm Bs, .map (some G)] 50)).alloc (.cells #[.bool false, .bool false, .bool false, .bool false] 43)

theorem setUp_old {w : World} {m : Int} {fm U V X M L O E Bs G : Nat} {j : Nat} (hj : j < w.heap.size) : (setUp w m fm U V X M L O E Bs G).heap[j]? = w.heap[j]? := by
  unfold setUp
  iterate 12 rw [Below.heap_alloc _ _ _ (by first | exact hj | (simp; omega))]

theorem setUp_size {w : World} {m : Int} {fm U V X M L O E Bs G : Nat} : (setUp w m fm U V X M L O E Bs G).heap.size = w.heap.size + 12 := by simp [setUp]

theorem setUp_below {w : World} {m : Int} {fm U V X M L O E Bs G : Nat} : Below w.heap.size w (setUp w m fm U V X M L O E Bs G) := ⟨rfl, rfl, rfl, by rw [setUp_size]; omega, fun j hj => setUp_old hj⟩

set_option maxHeartbeats 1000000 in
theorem setUp_inv {w : World} {m : Int} {fm U V X M L O E Bs G R base : Nat} (e0 : fm = w.heap.size) (e1 : U = fm + 1) (e2 : V = U + 1) (e3 : X = V + 1) (e4 : M = X + 1) (e5 : L = M + 1) (e6 : O = L + 1) (e7 : E = O + 1) (e8 : Bs = E + 1) (e9 : G = Bs + 1) (e10 : R = G + 1) (e11 : base = R + 1) {a : Addr} {s : ByteArray} (h0 : w.cell? ⟨0, 0, none⟩ = some (.iface 62 (.pointer (some a)))) (hs : w.cell? a = some (.string s)) :
    Inv fm R G X O U L M fm Bs E V base names m ⟨#[100, 111, 119, 110]⟩ a s w (.slice none 0 0) [] (.map []) (fun _ => none) (.slice none 0 0) (setUp w m fm U V X M L O E Bs G) := by
  have z0 : 0 < w.heap.size := World.block_lt_of_cell? _ _ h0
  have za : a.block < w.heap.size := World.block_lt_of_cell? _ _ hs
  subst e11 e10 e9 e8 e7 e6 e5 e4 e3 e2 e1 e0
  have four : ∀ {p : Nat → Prop}, p 0 → p 1 → p 2 → p 3 → ∀ k, k < 4 → p k := fun h0 h1 h2 h3 k hk => by
    have : k = 0 ∨ k = 1 ∨ k = 2 ∨ k = 3 := by omega
    rcases this with rfl | rfl | rfl | rfl <;> assumption
  have hsz : w.heap.size + 1 + 1 + 1 + 1 + 1 + 1 + 1 + 1 + 1 + 1 + 1 ≤ (setUp w m w.heap.size (w.heap.size + 1) (w.heap.size + 1 + 1) (w.heap.size + 1 + 1 + 1) (w.heap.size + 1 + 1 + 1 + 1) (w.heap.size + 1 + 1 + 1 + 1 + 1) (w.heap.size + 1 + 1 + 1 + 1 + 1 + 1) (w.heap.size + 1 + 1 + 1 + 1 + 1 + 1 + 1) (w.heap.size + 1 + 1 + 1 + 1 + 1 + 1 + 1 + 1) (w.heap.size + 1 + 1 + 1 + 1 + 1 + 1 + 1 + 1 + 1)).heap.size := by rw [setUp_size]; omega
  refine ⟨by simp, by simp, ⟨hsz, ⟨?_, four ?_ ?_ ?_ ?_, ?_, ?_, ?_⟩, ?_, ?_, four ⟨?_, ?_⟩ ⟨?_, ?_⟩ ⟨?_, ?_⟩ ⟨?_, ?_⟩, World.ownsRow_nil _ _ _ _, ?_, ?_, ?_, ?_, (cell_keep (setUp_old z0) 0).trans h0, (World.cell?_of_block (a := a) (setUp_old za)).trans hs⟩, World.ownsRow_nil _ _ _ _, by simp [Value.ownBlock], four ⟨?_, ?_⟩ ⟨?_, ?_⟩ ⟨?_, ?_⟩ ⟨?_, ?_⟩, by simp [Value.ownBlock], ?_, fun k _ => by simp [Maps.has], by simp [Maps.size], by simp, setUp_below⟩
  case refine_22 => unfold setUp; exact (ownsMap_at (by simp) _).alloc _
  all_goals (unfold setUp; go_simp)
end Go.Proofs.YbulkdbsuFmt
