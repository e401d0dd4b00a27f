/- b5155aF: the law's stand-in fetch (function 7: the closure) by its contract. -/
import Derived.Test.YbulkdbsuFmtFacts
import Derived.WalkKit
import Derived.WalkSpells
import Derived.WalkSmall
import Derived.LaidEql
import Derived.Deep.AppendLies
import Derived.Deep.QuietTactic
import Derived.BigQuiet
namespace Go.Proofs.YbulkdbsuFmt
open Go.RowKit

theorem info3 : (Ybaf.prog.info? 3).map (fun i => (i.zero, i.size, i.bytes)) = some (some (.int .i64 0), 1, 8) := by kernel_rfl
theorem info56 : (Ybaf.prog.info? 56).map (fun i => i.comparable) = some true := by kernel_rfl
theorem info58 : (Ybaf.prog.info? 58).map (fun i => i.comparable) = some true := by kernel_rfl
theorem neq25 (a : Addr) (w : World) : (binOp .neq 25 (.iface 56 (.pointer (some a))) (.iface 56 (.pointer (some a)))).run Ybaf.prog w = .ok (.bool false) w := by
  obtain ⟨i, hi, hc⟩ := Option.map_eq_some_iff.1 info56
  obtain ⟨j, hj, _⟩ := Option.map_eq_some_iff.1 info58
  simp only [binOp]
  simp [Op.equal, Op.maxDepth, run_equalIn_iface_ptr_same w 9998 a Ybaf.underlying25 Ybaf.underlying56 hi hc hj]

/-- What the closure reads and does not write. -/
structure Fix (w : World) (X U fm Bs E V : Nat) (us : Nat → ByteArray) (m : Int) (t : ByteArray) : Prop where
  cX : w.cell? ⟨X, 0, none⟩ = some (.iface 56 (.pointer (some ⟨V, 0, none⟩)))
  cU : ∀ k, k < 4 → w.cell? ⟨U, k, none⟩ = some (.string (us k))
  cfm : w.cell? ⟨fm, 0, none⟩ = some (.int .u8 m)
  cB : w.cell? ⟨Bs, 0, none⟩ = some (.iface 62 (.pointer (some ⟨E, 0, none⟩)))
  cE : w.cell? ⟨E, 0, none⟩ = some (.string t)

/-- The four names are apart. -/
def Apart (us : Nat → ByteArray) : Prop := ∀ i j, i < 4 → j < 4 → i ≠ j → ((us i).toList == (us j).toList) = false

/-- What the fetch of name k leaves: r the new resource's block, lv' the log's new value. -/
structure Left7 (B0 base L M k : Nat) (mk : Nat → Option Addr) (lv : Value) (ks : List Nat) (w : World) (r : Nat) (lv' : Value) (w' : World) : Prop where
  new : w.heap.size ≤ r ∧ r < w'.heap.size
  cL : w'.cell? ⟨L, 0, none⟩ = some lv' ∧ w'.frozen? ⟨L, 0, none⟩ = false
  cM : ∀ i, i < 4 → w'.cell? ⟨M, i, none⟩ = some (.pointer (if i = k then some ⟨r, 0, none⟩ else mk i)) ∧ w'.frozen? ⟨M, i, none⟩ = false
  own : w'.ownsRow base 3 1 lv' (ks ++ [k]).length ((ks ++ [k]).map fun x => Value.int .i64 (x : Nat))
  row : ∀ g, lv'.ownBlock = some g → lv.ownBlock = some g ∨ w.heap.size ≤ g
  kept : ∀ j, j < w.heap.size → j ≠ L → j ≠ M → some j ≠ lv.ownBlock → w'.heap[j]? = w.heap[j]?
  below : Below B0 w w'

theorem left7_drewN {B0 base L M k : Nat} {mk : Nat → Option Addr} {lv : Value} {ks : List Nat} {w : World} {r : Nat} {lv' : Value} {w' : World} (h : Left7 B0 base L M k mk lv ks w r lv' w') (q : Nat) : Left7 B0 base L M k mk lv ks w r lv' (w'.drewN q) :=
  ⟨h.new, h.cL, h.cM, h.own, h.row, h.kept, below_drewN h.below q⟩

theorem left7 {B0 base L M k g cap : Nat} {mk : Nat → Option Addr} {lv : Value} {ks : List Nat} {w w1 : World} {o ro : Obj} (hk : k < 4) (hbase : base ≤ w.heap.size) (l1 : L < base) (l2 : M < base) (d1 : ¬ L = M) (b1 : B0 ≤ L) (b2 : B0 ≤ M)
    (fL : w.frozen? ⟨L, 0, none⟩ = false) (cL : w.cell? ⟨L, 0, none⟩ = some lv) (cM : ∀ k, k < 4 → w.cell? ⟨M, k, none⟩ = some (.pointer (mk k)) ∧ w.frozen? ⟨M, k, none⟩ = false) (hown : w.ownsRow base 3 1 lv ks.length (ks.map fun x => Value.int .i64 (x : Nat)))
    (hown1 : w1.ownsRow base 3 1 (.slice (some ⟨g, 0, none⟩) (ks.length + 1) cap) (ks.length + 1) ((ks.map fun x => Value.int .i64 (x : Nat)) ++ [.int .i64 (k : Nat)])) (hgrow1 : (w.alloc o).grownBy w1 lv.ownBlock) (hat1 : lv.ownBlock = some g ∨ g = (w.alloc o).heap.size) :
    Left7 B0 base L M k mk lv ks w w1.heap.size (.slice (some ⟨g, 0, none⟩) (ks.length + 1) cap) (((w1.setCell ⟨L, 0, none⟩ (.slice (some ⟨g, 0, none⟩) (ks.length + 1) cap)).setCell ⟨M, k, none⟩ (.pointer (some ⟨w1.heap.size, 0, none⟩))).alloc ro) := by
  have hsz : w.heap.size + 1 ≤ w1.heap.size := by have := hgrow1.size; simpa using this
  have hnb : ∀ b, b < base → some b ≠ lv.ownBlock := fun b hb e => by have := (hown.lt b e.symm).1; omega
  have hw1 : ∀ b, b < w.heap.size → some b ≠ lv.ownBlock → w1.heap[b]? = w.heap[b]? := fun b hb hn => (hgrow1.block b (by simp; omega) hn).trans (Below.heap_alloc _ _ _ hb)
  have hL1 : w1.heap[L]? = w.heap[L]? := hw1 L (by omega) (hnb L l1)
  have hM1 : w1.heap[M]? = w.heap[M]? := hw1 M (by omega) (hnb M l2)
  have cL1 : w1.cell? ⟨L, 0, none⟩ = some lv := (World.cell?_of_block (a := ⟨L, 0, none⟩) hL1).trans cL
  have hs2 : (w1.setCell ⟨L, 0, none⟩ (.slice (some ⟨g, 0, none⟩) (ks.length + 1) cap)).heap.size = w1.heap.size := by simp [World.setCell]
  -- block by block
  have hM2 : (w1.setCell ⟨L, 0, none⟩ (.slice (some ⟨g, 0, none⟩) (ks.length + 1) cap)).heap[M]? = w.heap[M]? := by
    rw [Below.heap_setCell _ _ _ _ (fun e => d1 e.symm), hM1]
  have cM2 : ∀ i, i < 4 → (w1.setCell ⟨L, 0, none⟩ (.slice (some ⟨g, 0, none⟩) (ks.length + 1) cap)).cell? ⟨M, i, none⟩ = some (.pointer (mk i)) := fun i hi => (World.cell?_of_block (a := ⟨M, i, none⟩) hM2).trans (cM i hi).1
  have fM2 : ∀ i, i < 4 → (w1.setCell ⟨L, 0, none⟩ (.slice (some ⟨g, 0, none⟩) (ks.length + 1) cap)).frozen? ⟨M, i, none⟩ = false := fun i hi => (World.frozen?_of_block (a := ⟨M, i, none⟩) hM2).trans (cM i hi).2
  have hs3 : ((w1.setCell ⟨L, 0, none⟩ (.slice (some ⟨g, 0, none⟩) (ks.length + 1) cap)).setCell ⟨M, k, none⟩ (.pointer (some ⟨w1.heap.size, 0, none⟩))).heap.size = w1.heap.size := by simp [World.setCell]
  have hL3 : (((w1.setCell ⟨L, 0, none⟩ (.slice (some ⟨g, 0, none⟩) (ks.length + 1) cap)).setCell ⟨M, k, none⟩ (.pointer (some ⟨w1.heap.size, 0, none⟩))).alloc ro).heap[L]? = (w1.setCell ⟨L, 0, none⟩ (.slice (some ⟨g, 0, none⟩) (ks.length + 1) cap)).heap[L]? := by
    rw [Below.heap_alloc _ _ _ (by rw [hs3]; omega), Below.heap_setCell _ _ _ _ d1]
  have hM3 : (((w1.setCell ⟨L, 0, none⟩ (.slice (some ⟨g, 0, none⟩) (ks.length + 1) cap)).setCell ⟨M, k, none⟩ (.pointer (some ⟨w1.heap.size, 0, none⟩))).alloc ro).heap[M]? = ((w1.setCell ⟨L, 0, none⟩ (.slice (some ⟨g, 0, none⟩) (ks.length + 1) cap)).setCell ⟨M, k, none⟩ (.pointer (some ⟨w1.heap.size, 0, none⟩))).heap[M]? := Below.heap_alloc _ _ _ (by rw [hs3]; omega)
  refine ⟨⟨by omega, by simp [hs3]⟩, ⟨?_, ?_⟩, fun i hi => ⟨?_, ?_⟩, ?_, fun g' hg' => ?_, fun j hj n1 n2 n3 => ?_, ?_⟩
  · rw [World.cell?_of_block (a := ⟨L, 0, none⟩) hL3]; exact World.cell?_setCell_same _ _ _ cL1
  · rw [World.frozen?_of_block (a := ⟨L, 0, none⟩) hL3, World.frozen?_setCell, World.frozen?_of_block (a := ⟨L, 0, none⟩) hL1]; exact fL
  · rw [World.cell?_of_block (a := ⟨M, i, none⟩) hM3]
    by_cases e : i = k
    · subst e
      rw [if_pos rfl]; exact World.cell?_setCell_same _ _ _ (cM2 i hi)
    · rw [if_neg e, World.cell?_setCell_other _ _ _ _ (fun h => e (congrArg Addr.off h).symm)]; exact cM2 i hi
  · rw [World.frozen?_of_block (a := ⟨M, i, none⟩) hM3, World.frozen?_setCell]; exact fM2 i hi
  · have h1 := (ownsRow_setCell_below (ownsRow_setCell_below hown1 (a := ⟨L, 0, none⟩) l1 (.slice (some ⟨g, 0, none⟩) (ks.length + 1) cap)) (a := ⟨M, k, none⟩) l2 (.pointer (some ⟨w1.heap.size, 0, none⟩))).alloc ro
    simpa using h1
  · simp [Value.ownBlock] at hg'
    subst hg'
    rcases hat1 with h | h
    · exact .inl h
    · right; rw [h]; simp
  · rw [Below.heap_alloc _ _ _ (by rw [hs3]; omega), Below.heap_setCell _ _ _ _ n2, Below.heap_setCell _ _ _ _ n1, hw1 j hj n3]
  · exact Below.alloc (Below.setCell (Below.setCell (((Below.refl B0 w).alloc (by omega) o).grown hgrow1 (by simp; omega) (fun k hk => by have := (hown.lt k hk).1; omega)) (p := ⟨L, 0, none⟩) b1 _) (p := ⟨M, k, none⟩) b2 _) (by rw [hs3]; omega) ro

set_option maxHeartbeats 1000000 in
set_option maxRecDepth 100000 in
theorem fetch_ok (B0 X O U L M fm Bs E V base k : Nat) (us : Nat → ByteArray) (m : Int) (t : ByteArray) (mk : Nat → Option Addr) (lv : Value) (ks : List Nat) (w : World) (hA : Apart us) (hk : k < 4) (_hm0 : 0 ≤ m) (_hm1 : m ≤ 255) (hn : ks.length ≤ 4) (hbase : base ≤ w.heap.size) (l1 : L < base) (l2 : M < base) (l3 : fm < base) (l4 : Bs < base) (d1 : ¬ L = M) (d2 : ¬ L = fm) (d3 : ¬ L = Bs) (d4 : ¬ M = fm) (d5 : ¬ M = Bs) (b1 : B0 ≤ L) (b2 : B0 ≤ M) (hfb : (bits BinOp.and IntKind.u8 (m / 2 ^ k) 1 == 1) = false)
    (hf : Fix w X U fm Bs E V us m t) (cL : w.cell? ⟨L, 0, none⟩ = some lv) (fL : w.frozen? ⟨L, 0, none⟩ = false) (cM : ∀ k, k < 4 → w.cell? ⟨M, k, none⟩ = some (.pointer (mk k)) ∧ w.frozen? ⟨M, k, none⟩ = false) (hown : w.ownsRow base 3 1 lv ks.length (ks.map fun x => Value.int .i64 (x : Nat))) :
    Calls Ybaf.prog 7 #[.iface 56 (.pointer (some ⟨V, 0, none⟩)), .string (us k), .pointer (some ⟨X, 0, none⟩), .pointer (some ⟨O, 0, none⟩), .pointer (some ⟨U, 0, none⟩), .pointer (some ⟨L, 0, none⟩), .pointer (some ⟨M, 0, none⟩), .pointer (some ⟨fm, 0, none⟩), .pointer (some ⟨Bs, 0, none⟩)] w fun e w' => ∃ r, e = .returned (.tuple #[.pointer (some ⟨r, 0, none⟩), .nilIface]) ∧ ∃ lv', Left7 B0 base L M k mk lv ks w r lv' w' := by
  obtain ⟨i3, hi3, hy0, hy1, hy2⟩ := info_parts info3
  have n25 := neq25
  obtain ⟨fX, fU, ffm, fB, fE⟩ := hf
  obtain ⟨u, hu⟩ : ∃ u, u = us k := ⟨_, rfl⟩
  rw [← hu]
  have Hu : Hid (u = us k) := hu
  clear hu
  have hfar : ∀ {o : Obj} {w1 : World} (_ : (w.alloc o).grownBy w1 lv.ownBlock) (b i : Nat) {v : Value}, b < base → w.cell? ⟨b, i, none⟩ = some v → w1.cell? ⟨b, i, none⟩ = some v := by
    intro o w1 hg b i v hb hc
    rw [hg.cell_far ⟨b, i, none⟩ (by simp; omega) (fun e => by have := (hown.lt b e.symm).1; omega), World.cell?_alloc_past _ _ _ (by omega)]
    exact hc
  have hfaz : ∀ {o : Obj} {w1 : World} (_ : (w.alloc o).grownBy w1 lv.ownBlock) (b i : Nat), b < base → w.frozen? ⟨b, i, none⟩ = false → w1.frozen? ⟨b, i, none⟩ = false := by
    intro o w1 hg b i hb hc
    rw [hg.frozen_far ⟨b, i, none⟩ (by simp; omega) (fun e => by have := (hown.lt b e.symm).1; omega), World.frozen?_alloc_old _ _ _ (by exact (by omega : b ≠ w.heap.size))]
    exact hc
  go_enter Ybaf.func7, Ybaf.ntmps7
  go_wp2
  go_loop [13, 14] (fun kv jv => ∃ j : Nat, j ≤ k ∧ kv = .int .i64 (-1) ∧ jv = .int .i64 j) (fun _ jv => 4 - (intOf jv).toNat)
  case atStart => exact ⟨0, Nat.zero_le _, rfl, rfl⟩
  case round =>
    obtain ⟨j, hj, rfl, rfl⟩ := hrel
    have hU := fU j (by omega)
    have j0 : (0 : Int) ≤ (j : Int) := by omega
    have j1 : (j : Int) < 4 := by omega
    by_cases hlt : j < k
    · have hne : ((us j).toList == u.toList) = false := by rw [Hu.out]; exact hA j k (by omega) hk (by omega)
      go_wp2
      go_round
      case rel => exact ⟨j + 1, by omega, rfl, by go_num⟩
      case measure => simp [intOf]; omega
    · obtain rfl : j = k := by omega
      rw [← Hu.out] at hU
      have huu : ((us j).toList == u.toList) = true := by rw [Hu.out]; simp
      go_wp2_with (at_builtin; refine wpList_append_lies _ rfl _ _ 32 rfl base 3 i3 (.int .i64 0) 1 8 Ybaf.underlying32 hi3 hy0 hy1 hy2 rfl (by decide) lv ks.length _ rfl (hown.alloc _) ⟨_, 0, none⟩ 1 1 [.int .i64 (j : Nat)] rfl rfl (cell_one_new _ _ _) (ints_oneCell .i64 [(j : Int)]) (by decide) (by unfold maxLen; omega) (by omega) (by simp; omega) _ rfl ?_; intro g cap w1 hown1 hgrow1 hat1 hlt1; have cL1 : w1.cell? ⟨L, 0, none⟩ = some lv := hfar hgrow1 L 0 l1 cL; have fL1 : w1.frozen? ⟨L, 0, none⟩ = false := hfaz hgrow1 L 0 l1 fL; have cM1 : w1.cell? ⟨M, j, none⟩ = some (.pointer (mk j)) := hfar hgrow1 M j l2 (cM j hk).1; have fM1 : w1.frozen? ⟨M, j, none⟩ = false := hfaz hgrow1 M j l2 (cM j hk).2; have cf1 : w1.cell? ⟨fm, 0, none⟩ = some (.int .u8 m) := hfar hgrow1 fm 0 l3 ffm; have cB1 : w1.cell? ⟨Bs, 0, none⟩ = some (.iface 62 (.pointer (some ⟨E, 0, none⟩))) := hfar hgrow1 Bs 0 l4 fB; have sM1 : M < w1.heap.size := World.block_lt_of_cell? _ _ cM1; have sf1 : fm < w1.heap.size := World.block_lt_of_cell? _ _ cf1; have sB1 : Bs < w1.heap.size := World.block_lt_of_cell? _ _ cB1)
      go_ret2
      exact ⟨_, rfl, _, left7 hk hbase l1 l2 d1 b1 b2 fL cL cM hown hown1 hgrow1 hat1⟩

set_option maxHeartbeats 1000000 in
set_option maxRecDepth 100000 in
theorem fetch_fail (B0 X O U L M fm Bs E V base k : Nat) (us : Nat → ByteArray) (m : Int) (t : ByteArray) (mk : Nat → Option Addr) (lv : Value) (ks : List Nat) (w : World) (hA : Apart us) (hk : k < 4) (_hm0 : 0 ≤ m) (_hm1 : m ≤ 255) (hn : ks.length ≤ 4) (hbase : base ≤ w.heap.size) (l1 : L < base) (l2 : M < base) (l3 : fm < base) (l4 : Bs < base) (d1 : ¬ L = M) (d2 : ¬ L = fm) (d3 : ¬ L = Bs) (d4 : ¬ M = fm) (d5 : ¬ M = Bs) (b1 : B0 ≤ L) (b2 : B0 ≤ M) (hfb : (bits BinOp.and IntKind.u8 (m / 2 ^ k) 1 == 1) = true)
    (hf : Fix w X U fm Bs E V us m t) (cL : w.cell? ⟨L, 0, none⟩ = some lv) (fL : w.frozen? ⟨L, 0, none⟩ = false) (cM : ∀ k, k < 4 → w.cell? ⟨M, k, none⟩ = some (.pointer (mk k)) ∧ w.frozen? ⟨M, k, none⟩ = false) (hown : w.ownsRow base 3 1 lv ks.length (ks.map fun x => Value.int .i64 (x : Nat))) :
    Calls Ybaf.prog 7 #[.iface 56 (.pointer (some ⟨V, 0, none⟩)), .string (us k), .pointer (some ⟨X, 0, none⟩), .pointer (some ⟨O, 0, none⟩), .pointer (some ⟨U, 0, none⟩), .pointer (some ⟨L, 0, none⟩), .pointer (some ⟨M, 0, none⟩), .pointer (some ⟨fm, 0, none⟩), .pointer (some ⟨Bs, 0, none⟩)] w fun e w' => ∃ r, e = .returned (.tuple #[.pointer (some ⟨r, 0, none⟩), .iface 62 (.pointer (some ⟨E, 0, none⟩))]) ∧ ∃ lv', Left7 B0 base L M k mk lv ks w r lv' w' := by
  obtain ⟨i3, hi3, hy0, hy1, hy2⟩ := info_parts info3
  have n25 := neq25
  obtain ⟨fX, fU, ffm, fB, fE⟩ := hf
  obtain ⟨u, hu⟩ : ∃ u, u = us k := ⟨_, rfl⟩
  rw [← hu]
  have Hu : Hid (u = us k) := hu
  clear hu
  have hfar : ∀ {o : Obj} {w1 : World} (_ : (w.alloc o).grownBy w1 lv.ownBlock) (b i : Nat) {v : Value}, b < base → w.cell? ⟨b, i, none⟩ = some v → w1.cell? ⟨b, i, none⟩ = some v := by
    intro o w1 hg b i v hb hc
    rw [hg.cell_far ⟨b, i, none⟩ (by simp; omega) (fun e => by have := (hown.lt b e.symm).1; omega), World.cell?_alloc_past _ _ _ (by omega)]
    exact hc
  have hfaz : ∀ {o : Obj} {w1 : World} (_ : (w.alloc o).grownBy w1 lv.ownBlock) (b i : Nat), b < base → w.frozen? ⟨b, i, none⟩ = false → w1.frozen? ⟨b, i, none⟩ = false := by
    intro o w1 hg b i hb hc
    rw [hg.frozen_far ⟨b, i, none⟩ (by simp; omega) (fun e => by have := (hown.lt b e.symm).1; omega), World.frozen?_alloc_old _ _ _ (by exact (by omega : b ≠ w.heap.size))]
    exact hc
  go_enter Ybaf.func7, Ybaf.ntmps7
  go_wp2
  go_loop [13, 14] (fun kv jv => ∃ j : Nat, j ≤ k ∧ kv = .int .i64 (-1) ∧ jv = .int .i64 j) (fun _ jv => 4 - (intOf jv).toNat)
  case atStart => exact ⟨0, Nat.zero_le _, rfl, rfl⟩
  case round =>
    obtain ⟨j, hj, rfl, rfl⟩ := hrel
    have hU := fU j (by omega)
    have j0 : (0 : Int) ≤ (j : Int) := by omega
    have j1 : (j : Int) < 4 := by omega
    by_cases hlt : j < k
    · have hne : ((us j).toList == u.toList) = false := by rw [Hu.out]; exact hA j k (by omega) hk (by omega)
      go_wp2
      go_round
      case rel => exact ⟨j + 1, by omega, rfl, by go_num⟩
      case measure => simp [intOf]; omega
    · obtain rfl : j = k := by omega
      rw [← Hu.out] at hU
      have huu : ((us j).toList == u.toList) = true := by rw [Hu.out]; simp
      go_wp2_with (at_builtin; refine wpList_append_lies _ rfl _ _ 32 rfl base 3 i3 (.int .i64 0) 1 8 Ybaf.underlying32 hi3 hy0 hy1 hy2 rfl (by decide) lv ks.length _ rfl (hown.alloc _) ⟨_, 0, none⟩ 1 1 [.int .i64 (j : Nat)] rfl rfl (cell_one_new _ _ _) (ints_oneCell .i64 [(j : Int)]) (by decide) (by unfold maxLen; omega) (by omega) (by simp; omega) _ rfl ?_; intro g cap w1 hown1 hgrow1 hat1 hlt1; have cL1 : w1.cell? ⟨L, 0, none⟩ = some lv := hfar hgrow1 L 0 l1 cL; have fL1 : w1.frozen? ⟨L, 0, none⟩ = false := hfaz hgrow1 L 0 l1 fL; have cM1 : w1.cell? ⟨M, j, none⟩ = some (.pointer (mk j)) := hfar hgrow1 M j l2 (cM j hk).1; have fM1 : w1.frozen? ⟨M, j, none⟩ = false := hfaz hgrow1 M j l2 (cM j hk).2; have cf1 : w1.cell? ⟨fm, 0, none⟩ = some (.int .u8 m) := hfar hgrow1 fm 0 l3 ffm; have cB1 : w1.cell? ⟨Bs, 0, none⟩ = some (.iface 62 (.pointer (some ⟨E, 0, none⟩))) := hfar hgrow1 Bs 0 l4 fB; have sM1 : M < w1.heap.size := World.block_lt_of_cell? _ _ cM1; have sf1 : fm < w1.heap.size := World.block_lt_of_cell? _ _ cf1; have sB1 : Bs < w1.heap.size := World.block_lt_of_cell? _ _ cB1)
      go_quiet (fail)
      go_wp2
      go_ret2
      exact ⟨_, rfl, _, left7_drewN (left7 hk hbase l1 l2 d1 b1 b2 fL cL cM hown hown1 hgrow1 hat1) _⟩
end Go.Proofs.YbulkdbsuFmt
