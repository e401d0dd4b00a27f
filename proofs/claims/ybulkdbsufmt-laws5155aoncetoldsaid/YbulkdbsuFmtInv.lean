/- b5155aF: what holds between two rounds of the law's first loop. -/
import Derived.Test.YbulkdbsuFmtBad
namespace Go.Proofs.YbulkdbsuFmt
open Go.RowKit Go.Maps Go.WideMaps

/-- Does the fetch of name k fail? -/
def fbit (m : Int) (k : Nat) : Bool := bits BinOp.and IntKind.u8 (m / 2 ^ k) 1 == 1
/-- A name as a key. -/
def kl (us : Nat → ByteArray) (k : Nat) : Lit := .string (us k).data.toList

/-- What was fetched under name k. -/
structure Got (D : DataW Value) (us : Nat → ByteArray) (m : Int) (a : Addr) (base : Nat) (mk : Nat → Option Addr) (lv wv : Value) (W : World) (k : Nat) : Prop where
  ok : fbit m k = false → ∃ r, mk k = some r ∧ ∀ zd, D.atKey (kl us k) zd = .held (.agg #[.pointer (some r), .nilIface])
  bad : fbit m k = true → ∃ r q, mk k = some r ∧ (∀ zd, D.atKey (kl us k) zd = .held (.agg #[.pointer (some r), .iface 74 (.pointer (some ⟨q, 0, none⟩))])) ∧ base < q ∧ W.cell? ⟨q, 1, none⟩ = some (.iface 62 (.pointer (some a))) ∧ some q ≠ lv.ownBlock ∧ some q ≠ wv.ownBlock

structure Inv (B0 R G X O U L M fm Bs E V base : Nat) (us : Nat → ByteArray) (m : Int) (t : ByteArray) (a : Addr) (s : ByteArray) (w0 : World) (wv : Value) (ks : List Nat) (D : DataW Value) (mk : Nat → Option Addr) (lv : Value) (W : World) : Prop where
  nd : ks.Nodup
  lt : ∀ k ∈ ks, k < 4
  st : St R G ks.length D X O U L M fm Bs E V base us m t a s mk lv ks W
  own : W.ownsRow (base + 1) 3 1 wv ks.length (ks.map fun x => Value.int .i64 (x : Nat))
  sep : ∀ g, wv.ownBlock = some g → lv.ownBlock ≠ some g
  seen : ∀ k, k < 4 → W.cell? ⟨base, k, none⟩ = some (.bool (decide (k ∈ ks))) ∧ W.frozen? ⟨base, k, none⟩ = false
  lvZ : some base ≠ lv.ownBlock
  cO : W.cell? ⟨O, 0, none⟩ = some (.bool true)
  has : ∀ k, k < 4 → Maps.has D (kl us k) = decide (k ∈ ks)
  size : Maps.size D = ks.length
  got : ∀ k ∈ ks, Got D us m a base mk lv wv W k
  below : Below B0 w0 W

variable {B0 R G : Nat} {D : DataW Value} {X O U L M fm Bs E V base : Nat} {us : Nat → ByteArray} {m : Int} {t : ByteArray} {a : Addr} {s : ByteArray} {mk : Nat → Option Addr} {lv wv : Value} {ks : List Nat} {w0 W W' : World}

theorem nodup_len : ∀ (n : Nat) (l : List Nat), l.Nodup → (∀ k ∈ l, k < n) → l.length ≤ n
  | 0, l, _, h => by
    cases l with
    | nil => simp
    | cons x xs => exact absurd (h x (by simp)) (by omega)
  | n + 1, l, hd, h => by
    by_cases e : n ∈ l
    · have h1 := nodup_len n (l.erase n) (hd.erase n) (fun k hk => by
        have h2 := (hd.mem_erase_iff).1 hk
        have := h k h2.2
        have := h2.1
        omega)
      have h3 := List.length_erase_of_mem e
      omega
    · have h1 := nodup_len n l hd (fun k hk => by
        have := h k hk
        have : k ≠ n := fun e' => e (e' ▸ hk)
        omega)
      omega

theorem Inv.len (I : Inv B0 R G X O U L M fm Bs E V base us m t a s w0 wv ks D mk lv W) : ks.length ≤ 4 := nodup_len 4 ks I.nd I.lt

theorem Inv.hit (Y : Lay B0 R G X U L M fm Bs E base a) (hB : B0 ≤ base) (hO : O < base) (I : Inv B0 R G X O U L M fm Bs E V base us m t a s w0 wv ks D mk lv W) (h : Below W.heap.size W W') :
    Inv B0 R G X O U L M fm Bs E V base us m t a s w0 wv ks D mk lv W' := by
  have hb := I.st.hbase
  have hk : ∀ j, j < W.heap.size → W'.heap[j]? = W.heap[j]? := h.block
  have hZ : base < W.heap.size := World.block_lt_of_cell? _ _ (I.seen 0 (by omega)).1
  refine ⟨I.nd, I.lt, I.st.same Y hB h.size hk, ownsRow_keep I.own (fun g hg => hk g (I.own.lt g hg).2), I.sep, fun k h4 => ⟨(cell_keep (hk base hZ) k).trans (I.seen k h4).1, (frozen_keep (hk base hZ) k).trans (I.seen k h4).2⟩, I.lvZ, (cell_keep (hk O (by omega)) 0).trans I.cO, I.has, I.size, fun k hm => ⟨(I.got k hm).ok, fun hf => ?_⟩, I.below.trans ⟨h.os, h.tape, h.output, h.size, fun j hj => h.block j (by omega)⟩⟩
  obtain ⟨r, q, h1, h2, h3, h4, h5⟩ := (I.got k hm).bad hf
  exact ⟨r, q, h1, h2, h3, (cell_keep (hk q (World.block_lt_of_cell? _ _ h4)) 1).trans h4, h5⟩

/-- The state with the seen mark set and the name appended to want. -/
structure Mid (B0 base : Nat) (wv : Value) (ks : List Nat) (k : Nat) (W : World) (wv' : Value) (W3 : World) : Prop where
  kept : ∀ j, j < W.heap.size → j ≠ base → some j ≠ wv.ownBlock → W3.heap[j]? = W.heap[j]?
  seenK : ∀ i, W3.cell? ⟨base, i, none⟩ = if i = k then some (.bool true) else W.cell? ⟨base, i, none⟩
  seenF : ∀ i, W3.frozen? ⟨base, i, none⟩ = W.frozen? ⟨base, i, none⟩
  own : W3.ownsRow (base + 1) 3 1 wv' (ks ++ [k]).length ((ks ++ [k]).map fun x => Value.int .i64 (x : Nat))
  row : ∀ g, wv'.ownBlock = some g → wv.ownBlock = some g ∨ W.heap.size ≤ g
  below : Below B0 W W3

theorem mid {k g cap : Nat} {o : Obj} {W3 : World} (hb0 : B0 ≤ base) (hbase : base < W.heap.size) (hc : ∃ v, W.cell? ⟨base, k, none⟩ = some v) (hown : W.ownsRow (base + 1) 3 1 wv ks.length (ks.map fun x => Value.int .i64 (x : Nat)))
    (hown1 : W3.ownsRow (base + 1) 3 1 (.slice (some ⟨g, 0, none⟩) (ks.length + 1) cap) (ks.length + 1) ((ks.map fun x => Value.int .i64 (x : Nat)) ++ [.int .i64 (k : Nat)]))
    (hg : ((W.setCell ⟨base, k, none⟩ (.bool true)).alloc o).grownBy W3 wv.ownBlock) (hat : wv.ownBlock = some g ∨ g = ((W.setCell ⟨base, k, none⟩ (.bool true)).alloc o).heap.size) :
    Mid B0 base wv ks k W (.slice (some ⟨g, 0, none⟩) (ks.length + 1) cap) W3 := by
  have s1 : (W.setCell ⟨base, k, none⟩ (.bool true)).heap.size = W.heap.size := by simp [World.setCell]
  have s2 : ((W.setCell ⟨base, k, none⟩ (.bool true)).alloc o).heap.size = W.heap.size + 1 := by simp [s1]
  have nb : some base ≠ wv.ownBlock := fun e => by have := (hown.lt base e.symm).1; omega
  have eb : W3.heap[base]? = (W.setCell ⟨base, k, none⟩ (.bool true)).heap[base]? := (hg.block base (by omega) nb).trans (Below.heap_alloc _ _ _ (by omega))
  refine ⟨fun j hj n1 n2 => ?_, fun i => ?_, fun i => ?_, by simpa using hown1, fun g' hg' => ?_, ?_⟩
  · rw [hg.block j (by omega) n2, Below.heap_alloc _ _ _ (by omega), Below.heap_setCell _ _ _ _ n1]
  · rw [cell_keep eb i]
    obtain ⟨v, hv⟩ := hc
    by_cases e : i = k
    · subst e; rw [if_pos rfl]; exact World.cell?_setCell_same _ _ _ hv
    · rw [if_neg e, World.cell?_setCell_other _ _ _ _ (fun h => e (congrArg Addr.off h).symm)]
  · rw [frozen_keep eb i, World.frozen?_setCell]
  · simp [Value.ownBlock] at hg'
    subst hg'
    rcases hat with h | h
    · exact .inl h
    · right; omega
  · exact (((Below.refl B0 W).setCell (p := ⟨base, k, none⟩) hb0 _).alloc (by omega) o).grown hg (by omega) (fun j hj => by have := (hown.lt j hj).1; omega)

theorem Inv.mid (Y : Lay B0 R G X U L M fm Bs E base a) (hB : B0 ≤ base) (I : Inv B0 R G X O U L M fm Bs E V base us m t a s w0 wv ks D mk lv W) {k : Nat} {wv' : Value} {W3 : World} (h : Mid B0 base wv ks k W wv' W3) :
    St R G ks.length D X O U L M fm Bs E V base us m t a s mk lv ks W3 := by
  have hb := I.st.hbase
  refine I.st.keep Y hB h.below.size (fun j hj => h.kept j (by omega) (by omega) (fun e => by have := (I.own.lt j e.symm).1; omega)) (fun g hg => h.kept g (I.st.own_lt hg).2 (fun e => I.lvZ (by rw [hg, e])) (fun e => I.sep g e.symm hg))

theorem Inv.miss (Y : Lay B0 R G X U L M fm Bs E base a) (hO : O < base) (o1 : ¬ O = L) (o2 : ¬ O = M) (o3 : ¬ O = G) (hK : ∀ i j, i < 4 → j < 4 → i ≠ j → kl us i ≠ kl us j) (I : Inv B0 R G X O U L M fm Bs E V base us m t a s w0 wv ks D mk lv W) {k r : Nat} (hk : k < 4) (hn : k ∉ ks) {wv' lv' : Value} {W3 W4 : World} {x : Value} (h : Mid B0 base wv ks k W wv' W3)
    (h9 : Left9 B0 L M G lv W3 r lv' W4) (hst : St R G (ks.length + 1) (D.put (kl us k) (.held x)) X O U L M fm Bs E V base us m t a s (mkPut mk k r) lv' (ks ++ [k]) W4)
    (hx0 : fbit m k = false → x = .agg #[.pointer (some ⟨r, 0, none⟩), .nilIface])
    (hx1 : fbit m k = true → ∃ q, x = .agg #[.pointer (some ⟨r, 0, none⟩), .iface 74 (.pointer (some ⟨q, 0, none⟩))] ∧ W4.cell? ⟨q, 1, none⟩ = some (.iface 62 (.pointer (some a))) ∧ W3.heap.size ≤ q ∧ some q ≠ lv'.ownBlock) :
    Inv B0 R G X O U L M fm Bs E V base us m t a s w0 wv' (ks ++ [k]) (D.put (kl us k) (.held x)) (mkPut mk k r) lv' W4 := by
  have hb := I.st.hbase
  have s3 := h.below.size
  have s4 := h9.below.size
  have hZ : base < W.heap.size := World.block_lt_of_cell? _ _ (I.seen 0 (by omega)).1
  have l1 := Y.l1; have l2 := Y.l2; have l6 := Y.l6
  have hM : IsMap D := I.st.map.isMap
  have hT : Tidy D := I.st.map.tidy law9
  have hkl : WideAt.IsKeyLit (kl us k) := trivial
  have hwl : ∀ g, wv'.ownBlock = some g → lv.ownBlock ≠ some g := fun g hg e => by
    rcases h.row g hg with h1 | h1
    · exact I.sep g h1 e
    · have := (I.st.own_lt e).2; omega
  have eZ : W4.heap[base]? = W3.heap[base]? := h9.kept base (by omega) (by omega) (by omega) (by omega) I.lvZ
  have hfar : ∀ j, j < W.heap.size → j ≠ base → j ≠ L → j ≠ M → j ≠ G → some j ≠ wv.ownBlock → some j ≠ lv.ownBlock → W4.heap[j]? = W.heap[j]? := fun j hj n0 n1 n2 n3 n4 n5 => (h9.kept j (by omega) n1 n2 n3 n5).trans (h.kept j hj n0 n4)
  refine ⟨?_, ?_, by simpa using hst, ?_, ?_, fun i hi => ⟨?_, ?_⟩, ?_, ?_, fun i hi => ?_, ?_, fun i hi => ?_, (I.below.trans h.below).trans h9.below⟩
  · exact List.nodup_append.2 ⟨I.nd, by simp, fun p hp q hq => by simp at hq; subst hq; exact fun e => hn (e ▸ hp)⟩
  · intro p hp
    rcases List.mem_append.1 hp with h1 | h1
    · exact I.lt p h1
    · simp at h1; omega
  · refine ownsRow_keep h.own (fun g hg => ?_)
    have hg3 := h.own.lt g hg
    exact h9.kept g hg3.2 (by omega) (by omega) (by omega) (fun e => hwl g hg e.symm)
  · intro g hg e
    rcases h9.row g e with h1 | h1
    · exact hwl g hg h1
    · have := (h.own.lt g hg).2; omega
  · rw [cell_keep eZ i, h.seenK i]
    by_cases e : i = k
    · subst e; simp
    · rw [if_neg e, (I.seen i hi).1]; simp [e]
  · rw [frozen_keep eZ i, h.seenF i]; exact (I.seen i hi).2
  · intro e
    rcases h9.row base e.symm with h1 | h1
    · exact I.lvZ h1.symm
    · omega
  · exact (cell_keep (hfar O (by omega) (by omega) o1 o2 o3 (fun e => by have := (I.own.lt O e.symm).1; omega) (fun e => by have := (I.st.own_lt e.symm).1; omega)) 0).trans I.cO
  · by_cases e : i = k
    · subst e; rw [has_put_same hM hkl]; simp
    · rw [has_put_other (hK i k hi hk e), I.has i hi]; simp [e]
  · rw [size_put hT, I.has k hk, I.size]; simp [hn]
  · by_cases e : i = k
    · subst e
      refine ⟨fun hf => ?_, fun hf => ?_⟩
      · exact ⟨⟨r, 0, none⟩, by simp [mkPut], fun zd => by rw [atKey_put_same hM hkl, hx0 hf]⟩
      · obtain ⟨q, e1, e2, e3, e4⟩ := hx1 hf
        refine ⟨⟨r, 0, none⟩, q, by simp [mkPut], fun zd => by rw [atKey_put_same hM hkl, e1], by omega, e2, e4, fun e => ?_⟩
        have := (h.own.lt q e.symm).2; omega
    · have hik : i ∈ ks := by simpa [e] using hi
      have hi4 := I.lt i hik
      have hmk : mkPut mk k r i = mk i := by simp [mkPut, e]
      refine ⟨fun hf => ?_, fun hf => ?_⟩
      · obtain ⟨r', h1, h2⟩ := (I.got i hik).ok hf
        exact ⟨r', hmk.trans h1, fun zd => (atKey_put_other (hK i k hi4 hk e) _ _).trans (h2 zd)⟩
      · obtain ⟨r', q, h1, h2, h3, h4, h5, h6⟩ := (I.got i hik).bad hf
        have lq : q < W.heap.size := World.block_lt_of_cell? _ _ h4
        refine ⟨r', q, hmk.trans h1, fun zd => (atKey_put_other (hK i k hi4 hk e) _ _).trans (h2 zd), h3, (cell_keep (hfar q lq (by omega) (by omega) (by omega) (by omega) h6 h5) 1).trans h4, fun e => ?_, fun e => ?_⟩
        · rcases h9.row q e.symm with h1 | h1
          · exact h5 h1.symm
          · omega
        · rcases h.row q e.symm with h1 | h1
          · exact h6 h1.symm
          · omega
end Go.Proofs.YbulkdbsuFmt
