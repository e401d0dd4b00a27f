/- b5155aF: the state that the law's set-up leaves and each get keeps. -/
import Derived.Test.YbulkdbsuFmtGet
namespace Go.Proofs.YbulkdbsuFmt
open Go.RowKit Go.Maps Go.WideMaps

/-- Where things lie. -/
structure Lay (B0 R G X U L M fm Bs E base : Nat) (a : Addr) : Prop where
  l1 : L < base
  l2 : M < base
  l3 : fm < base
  l4 : Bs < base
  l5 : R < base
  l6 : G < base
  l7 : X < base
  l8 : U < base
  l9 : E < base
  d1 : ¬ L = M
  d2 : ¬ L = fm
  d3 : ¬ L = Bs
  d4 : ¬ M = fm
  d5 : ¬ M = Bs
  d6 : ¬ R = L
  d7 : ¬ R = M
  d8 : ¬ G = L
  d9 : ¬ G = M
  d10 : ¬ R = G
  d11 : ¬ X = L
  d12 : ¬ X = M
  d13 : ¬ X = G
  d14 : ¬ U = L
  d15 : ¬ U = M
  d16 : ¬ U = G
  d17 : ¬ E = L
  d18 : ¬ E = M
  d19 : ¬ E = G
  d20 : ¬ fm = G
  d21 : ¬ Bs = G
  b1 : B0 ≤ L
  b2 : B0 ≤ M
  b3 : B0 ≤ G
  b4 : 0 < B0
  b5 : a.block < B0

/-- What stands in the world. -/
structure St (R G n : Nat) (D : DataW Value) (X O U L M fm Bs E V base : Nat) (us : Nat → ByteArray) (m : Int) (t : ByteArray) (a : Addr) (s : ByteArray) (mk : Nat → Option Addr) (lv : Value) (ks : List Nat) (w : World) : Prop where
  hbase : base ≤ w.heap.size
  fix : Fix w X U fm Bs E V us m t
  cL : w.cell? ⟨L, 0, none⟩ = some lv
  fL : w.frozen? ⟨L, 0, none⟩ = false
  cM : ∀ k, k < 4 → w.cell? ⟨M, k, none⟩ = some (.pointer (mk k)) ∧ w.frozen? ⟨M, k, none⟩ = false
  own : w.ownsRow base 3 1 lv ks.length (ks.map fun x => Value.int .i64 (x : Nat))
  hR0 : w.cell? ⟨R, 0, none⟩ = some (.iface 56 (.pointer (some ⟨V, 0, none⟩)))
  hR1 : w.cell? ⟨R, 1, none⟩ = some (clo X O U L M fm Bs)
  hR2 : w.cell? ⟨R, 2, none⟩ = some (.map (some G))
  map : w.ownsMap Ybaf.prog 9 Rd G n D
  g0 : w.cell? ⟨0, 0, none⟩ = some (.iface 62 (.pointer (some a)))
  sa : w.cell? a = some (.string s)

variable {B0 R G n : Nat} {D : DataW Value} {X O U L M fm Bs E V base : Nat} {us : Nat → ByteArray} {m : Int} {t : ByteArray} {a : Addr} {s : ByteArray} {mk : Nat → Option Addr} {lv : Value} {ks : List Nat} {w w' : World}

theorem cell_keep {b : Nat} (h : w'.heap[b]? = w.heap[b]?) (i : Nat) : w'.cell? ⟨b, i, none⟩ = w.cell? ⟨b, i, none⟩ := World.cell?_of_block (a := ⟨b, i, none⟩) h
theorem frozen_keep {b : Nat} (h : w'.heap[b]? = w.heap[b]?) (i : Nat) : w'.frozen? ⟨b, i, none⟩ = w.frozen? ⟨b, i, none⟩ := World.frozen?_of_block (a := ⟨b, i, none⟩) h

theorem ownsRow_keep {e : TypeId} {z : Nat} {v : Value} {q : Nat} {xs : List Value} (h : w.ownsRow base e z v q xs) (hk : ∀ g, v.ownBlock = some g → w'.heap[g]? = w.heap[g]?) : w'.ownsRow base e z v q xs := by
  refine ⟨h.1, ?_⟩
  rcases h.2 with hn | ⟨g, cap, cur, hv, hb, hg, rest⟩
  · exact .inl hn
  · exact .inr ⟨g, cap, cur, hv, hb, (hk g (by rw [hv]; rfl)).trans hg, rest⟩

theorem ownsMap_keep (h : w.ownsMap Ybaf.prog 9 Rd G n D) (hk : w'.heap[G]? = w.heap[G]?) : w'.ownsMap Ybaf.prog 9 Rd G n D := by
  obtain ⟨es, clock, hb, rest⟩ := h
  exact ⟨es, clock, hk.trans hb, rest⟩

theorem St.keep (Y : Lay B0 R G X U L M fm Bs E base a) (hB : B0 ≤ base) (h : St R G n D X O U L M fm Bs E V base us m t a s mk lv ks w) (hs : w.heap.size ≤ w'.heap.size) (hk : ∀ j, j < base → w'.heap[j]? = w.heap[j]?) (ho : ∀ g, lv.ownBlock = some g → w'.heap[g]? = w.heap[g]?) :
    St R G n D X O U L M fm Bs E V base us m t a s mk lv ks w' := by
  have l0 : 0 < base := Nat.lt_of_lt_of_le Y.b4 hB
  have la : a.block < base := Nat.lt_of_lt_of_le Y.b5 hB
  exact ⟨Nat.le_trans h.hbase hs,
    ⟨(cell_keep (hk X Y.l7) 0).trans h.fix.cX, fun k h4 => (cell_keep (hk U Y.l8) k).trans (h.fix.cU k h4), (cell_keep (hk fm Y.l3) 0).trans h.fix.cfm, (cell_keep (hk Bs Y.l4) 0).trans h.fix.cB, (cell_keep (hk E Y.l9) 0).trans h.fix.cE⟩,
    (cell_keep (hk L Y.l1) 0).trans h.cL, (frozen_keep (hk L Y.l1) 0).trans h.fL, fun k h4 => ⟨(cell_keep (hk M Y.l2) k).trans (h.cM k h4).1, (frozen_keep (hk M Y.l2) k).trans (h.cM k h4).2⟩,
    ownsRow_keep h.own ho, (cell_keep (hk R Y.l5) 0).trans h.hR0, (cell_keep (hk R Y.l5) 1).trans h.hR1, (cell_keep (hk R Y.l5) 2).trans h.hR2, ownsMap_keep h.map (hk G Y.l6), (cell_keep (hk 0 l0) 0).trans h.g0, (World.cell?_of_block (a := a) (hk _ la)).trans h.sa⟩

theorem St.own_lt (h : St R G n D X O U L M fm Bs E V base us m t a s mk lv ks w) {g : Nat} (hg : lv.ownBlock = some g) : base ≤ g ∧ g < w.heap.size := h.own.lt g hg

/-- What lies past the state's blocks may turn. -/
theorem St.same (Y : Lay B0 R G X U L M fm Bs E base a) (hB : B0 ≤ base) (h : St R G n D X O U L M fm Bs E V base us m t a s mk lv ks w) (hs : w.heap.size ≤ w'.heap.size) (hk : ∀ j, j < w.heap.size → w'.heap[j]? = w.heap[j]?) :
    St R G n D X O U L M fm Bs E V base us m t a s mk lv ks w' :=
  h.keep Y hB hs (fun j hj => hk j (Nat.lt_of_lt_of_le hj h.hbase)) (fun g hg => hk g (h.own_lt hg).2)

theorem St.alloc (Y : Lay B0 R G X U L M fm Bs E base a) (hB : B0 ≤ base) (h : St R G n D X O U L M fm Bs E V base us m t a s mk lv ks w) (o : Obj) : St R G n D X O U L M fm Bs E V base us m t a s mk lv ks (w.alloc o) :=
  h.same Y hB (by simp) (fun j hj => Below.heap_alloc _ _ _ hj)

theorem St.drewN (h : St R G n D X O U L M fm Bs E V base us m t a s mk lv ks w) (q : Nat) : St R G n D X O U L M fm Bs E V base us m t a s mk lv ks (w.drewN q) :=
  ⟨h.hbase, ⟨h.fix.cX, h.fix.cU, h.fix.cfm, h.fix.cB, h.fix.cE⟩, h.cL, h.fL, h.cM, h.own, h.hR0, h.hR1, h.hR2, h.map, h.g0, h.sa⟩

theorem St.setCell (Y : Lay B0 R G X U L M fm Bs E base a) (hB : B0 ≤ base) (h : St R G n D X O U L M fm Bs E V base us m t a s mk lv ks w) {p : Addr} (hp : base ≤ p.block) (hp2 : some p.block ≠ lv.ownBlock) (v : Value) : St R G n D X O U L M fm Bs E V base us m t a s mk lv ks (w.setCell p v) :=
  h.keep Y hB (by simp [World.setCell]) (fun j hj => Below.heap_setCell _ _ _ _ (by omega)) (fun g hg => Below.heap_setCell _ _ _ _ (fun e => hp2 (by rw [hg, e])))

/-- The next table of what has been made. -/
def mkPut (mk : Nat → Option Addr) (k r : Nat) : Nat → Option Addr := fun i => if i = k then some ⟨r, 0, none⟩ else mk i

theorem St.fetched (Y : Lay B0 R G X U L M fm Bs E base a) (hB : B0 ≤ base) (h : St R G n D X O U L M fm Bs E V base us m t a s mk lv ks w) {k r : Nat} {lv' : Value} (h7 : Left7 B0 base L M k mk lv ks w r lv' w') :
    St R G n D X O U L M fm Bs E V base us m t a s (mkPut mk k r) lv' (ks ++ [k]) w' := by
  have l0 : 0 < base := Nat.lt_of_lt_of_le Y.b4 hB
  have la : a.block < base := Nat.lt_of_lt_of_le Y.b5 hB
  have hb := h.hbase
  have hk : ∀ j, j < base → j ≠ L → j ≠ M → w'.heap[j]? = w.heap[j]? := fun j hj n1 n2 => h7.kept j (by omega) n1 n2 (fun e => by have := (h.own_lt e.symm).1; omega)
  have b1 := Y.b1; have b2 := Y.b2; have b4 := Y.b4; have b5 := Y.b5
  exact ⟨Nat.le_trans h.hbase h7.below.size,
    ⟨(cell_keep (hk X Y.l7 Y.d11 Y.d12) 0).trans h.fix.cX, fun k h4 => (cell_keep (hk U Y.l8 Y.d14 Y.d15) k).trans (h.fix.cU k h4), (cell_keep (hk fm Y.l3 (Ne.symm Y.d2) (Ne.symm Y.d4)) 0).trans h.fix.cfm, (cell_keep (hk Bs Y.l4 (Ne.symm Y.d3) (Ne.symm Y.d5)) 0).trans h.fix.cB, (cell_keep (hk E Y.l9 Y.d17 Y.d18) 0).trans h.fix.cE⟩,
    h7.cL.1, h7.cL.2, h7.cM, h7.own, (cell_keep (hk R Y.l5 Y.d6 Y.d7) 0).trans h.hR0, (cell_keep (hk R Y.l5 Y.d6 Y.d7) 1).trans h.hR1, (cell_keep (hk R Y.l5 Y.d6 Y.d7) 2).trans h.hR2, ownsMap_keep h.map (hk G Y.l6 Y.d8 Y.d9), (cell_keep (hk 0 l0 (by omega) (by omega)) 0).trans h.g0, (World.cell?_of_block (a := a) (hk _ la (by omega) (by omega))).trans h.sa⟩

theorem St.updated (Y : Lay B0 R G X U L M fm Bs E base a) (hB : B0 ≤ base) (h : St R G n D X O U L M fm Bs E V base us m t a s mk lv ks w) {n' : Nat} {D' : DataW Value} (hm : w'.ownsMap Ybaf.prog 9 Rd G n' D') (hg : w.grownBy w' (some G)) :
    St R G n' D' X O U L M fm Bs E V base us m t a s mk lv ks w' := by
  have l0 : 0 < base := Nat.lt_of_lt_of_le Y.b4 hB
  have la : a.block < base := Nat.lt_of_lt_of_le Y.b5 hB
  have hb := h.hbase
  have hk : ∀ j, j < base → j ≠ G → w'.heap[j]? = w.heap[j]? := fun j hj n1 => hg.block j (by omega) (fun e => n1 (Option.some.inj e))
  have b3 := Y.b3; have b4 := Y.b4; have b5 := Y.b5
  have l6 := Y.l6
  exact ⟨Nat.le_trans h.hbase hg.size,
    ⟨(cell_keep (hk X Y.l7 Y.d13) 0).trans h.fix.cX, fun k h4 => (cell_keep (hk U Y.l8 Y.d16) k).trans (h.fix.cU k h4), (cell_keep (hk fm Y.l3 Y.d20) 0).trans h.fix.cfm, (cell_keep (hk Bs Y.l4 Y.d21) 0).trans h.fix.cB, (cell_keep (hk E Y.l9 Y.d19) 0).trans h.fix.cE⟩,
    (cell_keep (hk L Y.l1 (Ne.symm Y.d8)) 0).trans h.cL, (frozen_keep (hk L Y.l1 (Ne.symm Y.d8)) 0).trans h.fL, fun k h4 => ⟨(cell_keep (hk M Y.l2 (Ne.symm Y.d9)) k).trans (h.cM k h4).1, (frozen_keep (hk M Y.l2 (Ne.symm Y.d9)) k).trans (h.cM k h4).2⟩,
    ownsRow_keep h.own (fun g hg' => hg.block g (h.own_lt hg').2 (fun e => by have := (h.own_lt hg').1; have := Option.some.inj e; omega)), (cell_keep (hk R Y.l5 Y.d10) 0).trans h.hR0, (cell_keep (hk R Y.l5 Y.d10) 1).trans h.hR1, (cell_keep (hk R Y.l5 Y.d10) 2).trans h.hR2, hm, (cell_keep (hk 0 l0 (by omega)) 0).trans h.g0, (World.cell?_of_block (a := a) (hk _ la (by omega))).trans h.sa⟩

/-- What a get of a name not yet fetched leaves besides the state. -/
structure Left9 (B0 L M G : Nat) (lv : Value) (w : World) (r : Nat) (lv' : Value) (w' : World) : Prop where
  new : w.heap.size ≤ r ∧ r < w'.heap.size
  row : ∀ g, lv'.ownBlock = some g → lv.ownBlock = some g ∨ w.heap.size ≤ g
  kept : ∀ j, j < w.heap.size → j ≠ L → j ≠ M → j ≠ G → some j ≠ lv.ownBlock → w'.heap[j]? = w.heap[j]?
  below : Below B0 w w'
end Go.Proofs.YbulkdbsuFmt
