/- b5148a: overlay.LawS5148CAppends (function 4): the walk. -/
import Derived.Test.YbulkdbpaCLaws
import Derived.Deep.QuietTactic
import Derived.BigQuiet
import Derived.WalkSmall
import Derived.Laws.CopyOwn
import Derived.Lib.SliceRun
import Derived.Laws.Pointers
namespace Go.Proofs.Ybulkdbpa.lawS5148CAppends
open Go.RowKit

/-- 'make([]T, l, c)', one cell an element: the row is known whole. -/
theorem wpList_make_len_cap {P : Program} (w : World) {ops : Array Oper} {rest : List Oper} {o : Oper} {a : Act} {Q : Exit → Act → World → Prop}
    (hg : o.guard = none) (l c : Operand) (t : TypeId) (hop : o.op = Op.makeSlice t l c)
    (e : TypeId) (i : TypeInfo) (z : Value) (h1 : P.underlying t = some (.slice e)) (h2 : P.info? e = some i) (h3 : i.zero = some z) (h4 : i.size = 1) (h5 : i.bytes = 1)
    (kl kc : IntKind) (L C : Int) (n m : Nat) (hl : a.eval l = .int kl L) (hc : a.eval c = .int kc C) (hL : L = (n : Int)) (hC : C = (m : Int)) (hnm : n ≤ m) (b2 : m ≤ 1000000)
    (hK : ∀ (w' : World) (cur : List Value), w'.heap[w.heap.size]? = some (.cells cur.toArray e (0, 0)) → cur.length = m → Below w.heap.size w w' → w'.heap.size = w.heap.size + 1 → wpList P ops Q rest (a.put o.dst (.slice (some ⟨w.heap.size, 0, none⟩) n m)) w') :
    wpList P ops Q (o :: rest) a w := by
  refine wpList_plain hg fun K hK' => ?_
  subst hL hC
  have hrun := run_make (P := P) w t e i z h1 h2 h3 kl kc n m (by omega) (by omega) (by rw [h5]; omega) (by omega)
  simp only [Int.toNat_natCast] at hrun
  unfold Oper.wp
  simp [execOp, hop, hl, hc, hrun, Result.andThen]
  refine hK' _ _ (hK _ (madeCells z.cells (m * i.size)).toList ?_ ?_ ((Below.refl _ _).alloc (Nat.le_refl _) _) (by simp))
  · rw [Array.toArray_toList]; exact heap_alloc_new w _
  · rw [Array.length_toList, size_madeCells, h4, Nat.mul_one]

theorem copy_src {w w1 : World} {ao : Option Addr} {b off len : Nat} {xs : List Int} (hb : Below w.heap.size w w1) (hlen : xs.length = len) (hao : 0 < len → ao = some ⟨b, off, none⟩ ∧ b < w.heap.size) (hc : ∀ j, j < len → w.cell? ⟨b, off + j, none⟩ = some (.int .u8 (xs.getD j 0))) :
    ∀ j v, (xs.map u8)[j]? = some v → w1.cell? ((⟨b, off, none⟩ : Addr).add j) = some v := by
  intro j v hj
  have hj' : j < xs.length := by have := (List.getElem?_eq_some_iff.1 hj).1; simpa using this
  rw [Addr.add_lit, hb.cell (p := ⟨b, off + j, none⟩) (hao (by omega)).2, hc j (by omega), ← hj]
  simp [List.getD, hj']

set_option maxHeartbeats 1000000 in
theorem walk_main (ao : Option Addr) (b off len cap : Nat) (xs : List Int) (k s : ByteArray) (x : Int) (w : World) (hlen : xs.length = len) (hl : len ≤ 4096) (hk : k.size ≤ 4096) (hs : s.size ≤ 4096) (hx0 : 0 ≤ x) (hx1 : x ≤ 255)
    (hao : 0 < len → ao = some ⟨b, off, none⟩ ∧ b < w.heap.size) (hc : ∀ j, j < len → w.cell? ⟨b, off + j, none⟩ = some (.int .u8 (xs.getD j 0))) :
    Calls Yba.prog 4 #[.slice ao len cap, .string k, .string s, .int .u8 x] w fun e w' => e = .returned (.bool true) ∧ Below w.heap.size w w' := by
  obtain ⟨i0, hi, hz0, hz1, hz2⟩ := info_parts info5
  have hsz : (Yba.prog.info? 5).map (·.size) = some 1 := by rw [hi]; simp [hz1]
  have HL : Hid (xs.length = len) := hlen
  clear hlen
  obtain ⟨N, hN⟩ : ∃ N, len + k.size + s.size + 6 = N := ⟨_, rfl⟩
  have b2 : N ≤ 18000 := by omega
  have HN : Hid (len + k.size + s.size + 6 = N) := hN
  clear hN
  have d1 : decide ((4096 : Int) < (len : Int)) = false := decide_eq_false (by omega)
  have d2 : decide ((4096 : Int) < (k.size : Int)) = false := decide_eq_false (by omega)
  have d3 : decide ((4096 : Int) < (s.size : Int)) = false := decide_eq_false (by omega)
  have q43 : ∀ (w : World) (a : Option Addr) (n c n' c' : Nat), (binOp .eql 43 (.slice a n c) (.slice none n' c')).run Yba.prog w = .ok (.bool a.isNone) w := fun w a n c n' c' => Lib.run_eql_slice_nil w _ _ a n c n' c' Yba.underlying43
  go_enter Yba.func4, Yba.ntmps4
  go_wp2_with (first
    | (at_make; refine wpList_make_len_cap _ rfl _ _ 37 rfl 5 i0 (.int .u8 0) Yba.underlying37 hi hz0 hz1 hz2 _ _ _ _ len (len + (x % 16).toNat) rfl rfl (by omega) (by omega) (by omega) (by omega) ?_; intro w1 cur hcur hcl hb1 hsz1)
    | (refine wpList_copy_splice rfl (.tmp 37) (.tmp 38) 37 37 rfl 5 Yba.underlying37 hsz _ _ _ _ _ _ rfl rfl w.heap.size 0 cur 5 hcur (xs.map u8) (by simp [HL.out]) (fun h => ⟨rfl, _, (hao (by simpa [HL.out] using h)).1, copy_src hb1 HL.out hao hc⟩) (by rw [List.length_map, HL.out]; omega) (u8s_oneCell xs) w.heap.size w hb1 (Nat.le_refl _) ?_; intro w2 hrow2 hb2))
  obtain ⟨c', hc'⟩ : ∃ c', len + (x % 16).toNat = c' := ⟨_, rfl⟩
  rw [hc']
  have hown2 : w2.ownsRow w.heap.size 5 1 (.slice (some ⟨w.heap.size, 0, none⟩) len c') len (xs.map u8) := by
    refine ⟨by simp [HL.out], .inr ⟨_, c', _, rfl, Nat.le_refl _, hrow2.out, by omega, by unfold maxLen; omega, ?_, ?_⟩⟩
    · have := length_splice cur 0 (xs.map u8) (by rw [List.length_map, HL.out]; omega)
      simp only [List.size_toArray]
      omega
    · rw [List.toList_toArray]
      unfold splice
      rw [List.take_zero, List.nil_append]
      exact List.take_left' (by simp [HL.out])
  clear hc' hrow2 hcur hcl hb1 hsz1
  have hL2 : Lin (.pointer none) (.pointer none) (.pointer none) (.int .u64 7) (.slice none 0 0) .nilIface w.heap.size w2.heap.size (w2.alloc (.cells #[.pointer none, .pointer none, .pointer none, .int .u64 7, .slice none 0 0, .slice (some ⟨w.heap.size, 0, none⟩) len c', .nilIface] 47)) (.slice (some ⟨w.heap.size, 0, none⟩) len c') len (xs.map u8) :=
    ⟨heap_alloc_new w2 _, hown2.alloc _, by simp; have := hb2.size; omega, hb2.size⟩
  refine (text_at _ _ _ _ _ _ w.heap.size w2.heap.size _ _ len xs k s N (xs ++ fldI k s) HN.out rfl hL2 (by omega) hk hs).mono ?_
  rintro e w3 ⟨rfl, g3, cap3, hL3, hb3⟩
  have hbW3 : Below w.heap.size w w3 := (hb2.alloc hb2.size _).trans hb3
  clear hL2 hb3 hb2 hown2
  generalize w2.heap.size = T at *
  go_wp2_with fail
  refine (expect_at ao b off len cap xs k s w3 N w3.heap.size (xs ++ fldI k s) HN.out rfl rfl HL.out (by omega) hk hs (fun h => ⟨(hao h).1, Nat.lt_of_lt_of_le (hao h).2 hbW3.size⟩) (fun j h => by rw [hbW3.cell (p := ⟨b, off + j, none⟩) (hao (by omega)).2]; exact hc j h)).mono ?_
  rintro e w4 ⟨rfl, hz4, hc4, hb4⟩
  have hbW4 : Below w.heap.size w w4 := hbW3.trans (hb4.mono hbW3.size)
  have hT4 := hL3.trc.of_block (hb4.block _ hL3.trc.lt)
  have hline := hT4.cell
  obtain ⟨f0, f1, f2, f3, f4, f6⟩ := hT4.cells
  have hg3 := (hL3.own.lt g3 rfl).2
  obtain ⟨L, hLe⟩ : ∃ L, L = xs ++ fldI k s := ⟨_, rfl⟩
  have hx4 : ∀ j, j < N → w4.cell? ⟨g3, j, none⟩ = some (u8 (L.getD j 0)) := fun j hj => by
    rw [hb4.cell (p := ⟨g3, j, none⟩) hg3, hLe]
    exact own_cells hL3.own j hj
  have hy4 : ∀ j, j < N → w4.cell? ⟨w3.heap.size, j, none⟩ = some (u8 (L.getD j 0)) := by rw [hLe]; exact hc4
  clear hc4 hb4 hL3 hT4 hLe hbW3 hc hao
  generalize w3.heap.size = h3s at *
  go_wp2_with fail
  go_loopw [13] (fun i wr => ∃ j : Nat, j ≤ N ∧ i = .int .i64 j ∧ ∃ q, wr = w4.drewN q) (fun i _ => N - (intOf i).toNat)
  case atStart => exact ⟨0, Nat.zero_le _, rfl, 0, rfl⟩
  case round =>
    obtain ⟨j, hj, rfl, q, rfl⟩ := hrel
    by_cases hlt : j < N
    · obtain ⟨z, hz⟩ : ∃ z, z = L.getD j 0 := ⟨_, rfl⟩
      have hx := hx4 j hlt
      have hy := hy4 j hlt
      rw [← hz] at hx hy
      clear hx4 hy4 hz
      have i0 : (0 : Int) ≤ (j : Int) := by omega
      have i1 : (j : Int) < (N : Int) := by omega
      go_wp2
      go_quiet (fail)
      go_wp2
      go_roundw
      case rel => exact ⟨j + 1, by omega, by go_num, _, rfl⟩
      case measure => simp [intOf]; omega
    · go_wp2
      go_ret
      exact ⟨rfl, below_drewN hbW4 _⟩
end Go.Proofs.Ybulkdbpa.lawS5148CAppends
