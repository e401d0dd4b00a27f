/- b5148a: (*tracer).key (function 9), (*tracer).text (function 7) by their contracts. -/
import Derived.Test.YbulkdbpaCParts
import Derived.Deep.AppendLies
namespace Go.Proofs.Ybulkdbpa
open Go.RowKit
open Go.Lib (strCells)

/-- The tracer in block T: its line is v, its other six fields are c0 .. c4, c6. -/
def Trc (c0 c1 c2 c3 c4 c6 : Value) (T : Nat) (w : World) (v : Value) : Prop := w.heap[T]? = some (.cells #[c0, c1, c2, c3, c4, v, c6] 47 (0, 0))

section
variable {c0 c1 c2 c3 c4 c6 : Value} {T : Nat} {w : World} {v : Value}

theorem Trc.lt (h : Trc c0 c1 c2 c3 c4 c6 T w v) : T < w.heap.size := (Array.getElem?_eq_some_iff.1 h).1
theorem Trc.cell (h : Trc c0 c1 c2 c3 c4 c6 T w v) : w.cell? ⟨T, 5, none⟩ = some v := by rw [cell_of_row w T 5 _ 47 (0, 0) h]; rfl
theorem Trc.cells (h : Trc c0 c1 c2 c3 c4 c6 T w v) : w.cell? ⟨T, 0, none⟩ = some c0 ∧ w.cell? ⟨T, 1, none⟩ = some c1 ∧ w.cell? ⟨T, 2, none⟩ = some c2 ∧ w.cell? ⟨T, 3, none⟩ = some c3 ∧ w.cell? ⟨T, 4, none⟩ = some c4 ∧ w.cell? ⟨T, 6, none⟩ = some c6 := by
  refine ⟨?_, ?_, ?_, ?_, ?_, ?_⟩ <;> (rw [cell_of_row w T _ _ 47 (0, 0) h]; rfl)
theorem Trc.frozen (h : Trc c0 c1 c2 c3 c4 c6 T w v) : w.frozen? ⟨T, 5, none⟩ = false := by
  unfold Trc at h
  simp [World.frozen?, h]
theorem Trc.set (h : Trc c0 c1 c2 c3 c4 c6 T w v) (v' : Value) : Trc c0 c1 c2 c3 c4 c6 T (w.setCell ⟨T, 5, none⟩ v') v' := by
  have hlt := h.lt
  unfold Trc at h ⊢
  simp only [World.setCell, Array.getElem?_modify, h]
  simp
theorem Trc.of_block {w' : World} (h : Trc c0 c1 c2 c3 c4 c6 T w v) (hb : w'.heap[T]? = w.heap[T]?) : Trc c0 c1 c2 c3 c4 c6 T w' v := hb.trans h
end

/-- The state of a tracer whose line is the call's own. -/
structure Lin (c0 c1 c2 c3 c4 c6 : Value) (base T : Nat) (w : World) (v : Value) (n : Nat) (xs : List Value) : Prop where
  trc : Trc c0 c1 c2 c3 c4 c6 T w v
  own : w.ownsRow base 5 1 v n xs
  le : base ≤ w.heap.size
  lo : base ≤ T

section
variable {c0 c1 c2 c3 c4 c6 : Value} {base T : Nat} {w w1 : World} {v v' : Value} {n n' : Nat} {xs xs' : List Value}

theorem ownBlock_ne (ht : Trc c0 c1 c2 c3 c4 c6 T w v) {u : Value} (ho : w.ownsRow base 5 1 u n xs) : some T ≠ u.ownBlock := by
  intro e
  rcases ho.2 with ⟨rfl, _⟩ | ⟨g, cap, cur, rfl, hb, hg, _⟩
  · simp [Value.ownBlock] at e
  · simp [Value.ownBlock] at e
    subst e
    unfold Trc at ht
    rw [ht] at hg
    cases hg

theorem Lin.alloc (h : Lin c0 c1 c2 c3 c4 c6 base T w v n xs) (o : Obj) : Lin c0 c1 c2 c3 c4 c6 base T (w.alloc o) v n xs :=
  ⟨h.trc.of_block (Below.heap_alloc _ _ _ h.trc.lt), h.own.alloc o, by simp; have := h.le; omega, h.lo⟩

/-- What the append's law leaves: the tracer still holds v. -/
theorem Lin.mid (h : Lin c0 c1 c2 c3 c4 c6 base T w v n xs) (hg : w.grownBy w1 v.ownBlock) : Trc c0 c1 c2 c3 c4 c6 T w1 v :=
  h.trc.of_block (hg.block T h.trc.lt (ownBlock_ne h.trc h.own))

/-- .. and behind the store. -/
theorem Lin.step (h : Lin c0 c1 c2 c3 c4 c6 base T w v n xs) (hg : w.grownBy w1 v.ownBlock) (ho : w1.ownsRow base 5 1 v' n' xs') : Lin c0 c1 c2 c3 c4 c6 base T (w1.setCell ⟨T, 5, none⟩ v') v' n' xs' := by
  have hm := h.mid hg
  refine ⟨hm.set v', ?_, ?_, h.lo⟩
  · have hne := ownBlock_ne hm ho
    refine ⟨ho.1, ?_⟩
    rcases ho.2 with h2 | ⟨g, cap, cur, hv, hgb, hh, r⟩
    · exact Or.inl h2
    · refine Or.inr ⟨g, cap, cur, hv, hgb, ?_, r⟩
      rw [Below.heap_setCell _ _ _ _ (fun e => hne (by rw [hv]; simp [Value.ownBlock]; exact e.symm))]
      exact hh
  · have := h.le
    have := hg.size
    simp [World.setCell]
    omega

theorem Lin.below (h : Lin c0 c1 c2 c3 c4 c6 base T w v n xs) {W : World} (hb : Below base W w) (hg : w.grownBy w1 v.ownBlock) (u : Value) : Below base W (w1.setCell ⟨T, 5, none⟩ u) :=
  (hb.grown hg h.le (fun k hk => (h.own.lt k hk).1)).setCell (p := ⟨T, 5, none⟩) h.lo u
end

/-- 'append(line, s...)', the line not empty: the new value written out. -/
theorem wpList_append_str {P : Program} (w : World) {ops : Array Oper} {rest : List Oper} {o : Oper} {a : Act} {Q : Exit → Act → World → Prop} (hgd : o.guard = none) (sl x : Operand) (t u : TypeId)
    (ho : o.op = .call { callee := .builtin .append, args := #[sl, x], argTypes := #[t, u] })
    (base : Nat) (e : TypeId) (i : TypeInfo) (ht : P.underlying t = some (.slice e)) (hu : P.underlying u = some .string) (hi : P.info? e = some i) (hz : i.zero = some (.int .u8 0))
    (hsize : i.size = 1) (hby : i.bytes = 1)
    (v : Value) (n : Nat) (xs : List Value) (hs : a.eval sl = v) (hown : w.ownsRow base e 1 v n xs) (s : ByteArray) (hx : a.eval x = .string s) (hn : 0 < n)
    (h63 : n + s.size ≤ maxLen) (hbytes : n + s.size ≤ 140737488355328) (hbase : base ≤ w.heap.size)
    (h : ∀ g cap w', w'.ownsRow base e 1 (.slice (some ⟨g, 0, none⟩) (n + s.size) cap) (n + s.size) (xs ++ strCells s) → w.grownBy w' v.ownBlock → wpList P ops Q rest (a.put o.dst (.slice (some ⟨g, 0, none⟩) (n + s.size) cap)) w') : wpList P ops Q (o :: rest) a w := by
  refine Lib.wpList_append_own_string w hgd sl x t u ho base e i ht hu hi hz hsize hby v n xs hs hown s hx h63 hbytes hbase ?_
  intro v' w' h1 h2 _
  obtain ⟨g, cap, rfl, _, _⟩ := h1.form (by omega)
  exact h g cap w' h1 h2

set_option maxHeartbeats 800000 in
theorem key_any (c0 c1 c2 c3 c4 c6 : Value) (base T : Nat) (w : World) (v : Value) (n : Nat) (xs : List Value) (k : ByteArray) (hL : Lin c0 c1 c2 c3 c4 c6 base T w v n xs) (hn : n ≤ 20000) (hk : k.size ≤ 4096) :
    Calls Yba.prog 9 #[.pointer (some ⟨T, 0, none⟩), .string k] w fun e w' => e = .returned (.tuple #[]) ∧ ∃ g cap, Lin c0 c1 c2 c3 c4 c6 base T w' (.slice (some ⟨g, 0, none⟩) (n + 2 + k.size + 2) cap) (n + 2 + k.size + 2) (xs ++ [u8 44, u8 34] ++ strCells k ++ [u8 34, u8 58]) ∧ Below base w w' := by
  obtain ⟨i0, hi, hz0, hz1, hz2⟩ := info_parts info5
  have hc0 := hL.trc.cell
  have hle := hL.le
  go_enter Yba.func9, Yba.ntmps9
  go_wp2_with (first
    | (at_builtin; refine wpList_append_lies _ rfl (.tmp 8) (.tmp 9) 37 rfl base 5 i0 (.int .u8 0) 1 1 Yba.underlying37 hi hz0 hz1 hz2 rfl (by decide) v n xs rfl (hL.own.alloc _) ⟨_, 0, none⟩ 2 2 [u8 44, u8 34] rfl rfl (cells_two_new _ _ _ _) (u8s_oneCell [44, 34]) (by decide) (by unfold maxLen; omega) (by omega) (by simp; omega) _ rfl ?_; intro g1 cap1 w1 hown1 hgrow1 _ _; have hT1 := ((hL.alloc _).mid hgrow1); have hc1 := hT1.cell; have hf1 := hT1.frozen; have hL1 := (hL.alloc _).step hgrow1 hown1; have hb1 := (hL.alloc _).below ((Below.refl base w).alloc hle _) hgrow1 (.slice (some ⟨g1, 0, none⟩) (n + 2) cap1); clear hown1 hgrow1)
    | (at_builtin; refine wpList_append_str _ rfl (.tmp 17) (.tmp 18) 37 9 rfl base 5 i0 Yba.underlying37 Yba.underlying9 hi hz0 hz1 hz2 _ (n + 2) _ rfl hL1.own k rfl (by omega) (by unfold maxLen; omega) (by omega) hL1.le ?_; intro g2 cap2 w2 hown2 hgrow2; have hT2 := (hL1.mid hgrow2); have hc2 := hT2.cell; have hf2 := hT2.frozen; have hL2 := hL1.step hgrow2 hown2; have hb2 := hL1.below hb1 hgrow2 (.slice (some ⟨g2, 0, none⟩) (n + 2 + k.size) cap2); clear hown2 hgrow2)
    | (at_builtin; refine wpList_append_lies _ rfl (.tmp 26) (.tmp 27) 37 rfl base 5 i0 (.int .u8 0) 1 1 Yba.underlying37 hi hz0 hz1 hz2 rfl (by decide) _ (n + 2 + k.size) _ rfl (hL2.own.alloc _) ⟨_, 0, none⟩ 2 2 [u8 34, u8 58] rfl rfl (cells_new_at _ [u8 34, u8 58] 5 _ (by simp)) (u8s_oneCell [34, 58]) (by decide) (by unfold maxLen; omega) (by omega) (hL2.alloc _).le _ rfl ?_; intro g3 cap3 w3 hown3 hgrow3 _ _; have hT3 := ((hL2.alloc _).mid hgrow3); have hc3 := hT3.cell; have hf3 := hT3.frozen; have hL3 := (hL2.alloc _).step hgrow3 hown3; have hb3 := (hL2.alloc _).below (hb2.alloc hL2.le _) hgrow3 (.slice (some ⟨g3, 0, none⟩) (n + 2 + k.size + 2) cap3); clear hown3 hgrow3))
  go_end0
  exact ⟨rfl, g3, cap3, hL3, hb3⟩

set_option maxHeartbeats 800000 in
theorem text_any (c0 c1 c2 c3 c4 c6 : Value) (base T : Nat) (w : World) (v : Value) (n : Nat) (xs : List Value) (k s : ByteArray) (hL : Lin c0 c1 c2 c3 c4 c6 base T w v n xs) (hn : n ≤ 12000) (hk : k.size ≤ 4096) (hs : s.size ≤ 4096) :
    Calls Yba.prog 7 #[.pointer (some ⟨T, 0, none⟩), .string k, .string s] w fun e w' => e = .returned (.tuple #[]) ∧ ∃ g cap, Lin c0 c1 c2 c3 c4 c6 base T w' (.slice (some ⟨g, 0, none⟩) (n + k.size + s.size + 6) cap) (n + k.size + s.size + 6) (xs ++ fld k s) ∧ Below base w w' := by
  obtain ⟨i0, hi, hz0, hz1, hz2⟩ := info_parts info5
  go_enter Yba.func7, Yba.ntmps7
  go_wp2_with (first
    | (go_at_call 9; refine (key_any c0 c1 c2 c3 c4 c6 base T w v n xs k hL (by omega) hk).mono ?_; rintro e w0 ⟨rfl, g0, cap0, hL0, hb0⟩; have hc0 := hL0.trc.cell)
    | (at_builtin; refine wpList_append_lies _ rfl (.tmp 13) (.tmp 14) 37 rfl base 5 i0 (.int .u8 0) 1 1 Yba.underlying37 hi hz0 hz1 hz2 rfl (by decide) _ (n + 2 + k.size + 2) _ rfl (hL0.own.alloc _) ⟨_, 0, none⟩ 1 1 [u8 34] rfl rfl (cells_new_at _ [u8 34] 5 _ (by simp)) (u8s_oneCell [34]) (by decide) (by unfold maxLen; omega) (by omega) (hL0.alloc _).le _ rfl ?_; intro g1 cap1 w1 hown1 hgrow1 _ _; have hT1 := ((hL0.alloc _).mid hgrow1); have hc1 := hT1.cell; have hf1 := hT1.frozen; have hL1 := (hL0.alloc _).step hgrow1 hown1; have hb1 := (hL0.alloc _).below (hb0.alloc hL0.le _) hgrow1 (.slice (some ⟨g1, 0, none⟩) (n + 2 + k.size + 2 + 1) cap1); clear hown1 hgrow1)
    | (at_builtin; refine wpList_append_str _ rfl (.tmp 22) (.tmp 23) 37 9 rfl base 5 i0 Yba.underlying37 Yba.underlying9 hi hz0 hz1 hz2 _ (n + 2 + k.size + 2 + 1) _ rfl hL1.own s rfl (by omega) (by unfold maxLen; omega) (by omega) hL1.le ?_; intro g2 cap2 w2 hown2 hgrow2; have hT2 := (hL1.mid hgrow2); have hc2 := hT2.cell; have hf2 := hT2.frozen; have hL2 := hL1.step hgrow2 hown2; have hb2 := hL1.below hb1 hgrow2 (.slice (some ⟨g2, 0, none⟩) (n + 2 + k.size + 2 + 1 + s.size) cap2); clear hown2 hgrow2)
    | (at_builtin; refine wpList_append_lies _ rfl (.tmp 31) (.tmp 32) 37 rfl base 5 i0 (.int .u8 0) 1 1 Yba.underlying37 hi hz0 hz1 hz2 rfl (by decide) _ (n + 2 + k.size + 2 + 1 + s.size) _ rfl (hL2.own.alloc _) ⟨_, 0, none⟩ 1 1 [u8 34] rfl rfl (cells_new_at _ [u8 34] 5 _ (by simp)) (u8s_oneCell [34]) (by decide) (by unfold maxLen; omega) (by omega) (hL2.alloc _).le _ rfl ?_; intro g3 cap3 w3 hown3 hgrow3 _ _; have hT3 := ((hL2.alloc _).mid hgrow3); have hc3 := hT3.cell; have hf3 := hT3.frozen; have hL3 := (hL2.alloc _).step hgrow3 hown3; have hb3 := (hL2.alloc _).below (hb2.alloc hL2.le _) hgrow3 (.slice (some ⟨g3, 0, none⟩) (n + 2 + k.size + 2 + 1 + s.size + 1) cap3); clear hown3 hgrow3))
  go_end0
  have e1 : n + 2 + k.size + 2 + 1 + s.size + 1 = n + k.size + s.size + 6 := by omega
  have e2 : xs ++ [u8 44, u8 34] ++ strCells k ++ [u8 34, u8 58] ++ [u8 34] ++ strCells s ++ [u8 34] = xs ++ fld k s := by simp [fld]
  refine ⟨rfl, g3, cap3, ?_, hb3⟩
  rw [← e2, ← e1]
  exact hL3
end Go.Proofs.Ybulkdbpa
