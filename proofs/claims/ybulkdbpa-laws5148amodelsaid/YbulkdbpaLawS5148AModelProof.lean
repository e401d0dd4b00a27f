/- b5148a: 'Rows.LawS5148AModelSaid': the arguments opened, the three walks joined, the row. After the frame that the guide's program writes for laws over slices of integers. -/
import Derived.Test.YbulkdbpaAWalk
import Derived.Test.YbulkdbpaAWalkB
import Derived.Test.YbulkdbpaAWalkA
import Derived.OpenShut
import Derived.ShutString
import Derived.ChangeOld
import Derived.Below
import Derived.Deep.SlicePairs
import Derived.SliceStrings
namespace Go.Proofs.Ybulkdbpa.lawS5148AModel
open Go.ChangeShapes Go.WideShapes Go.ChangeAt Go.RowKit

theorem own : ownKnob Yba.prog.godebug = none := by kernel_rfl
theorem cells26 : Yba.prog.cellsOf 26 = 2 := by kernel_rfl
theorem cells9 : Yba.prog.cellsOf 9 = 1 := by kernel_rfl

/-- What the walk is told of the slice of pairs. -/
def IsPairs (w : World) (a : Option Addr) (n : Nat) (ps : List Pair) : Prop :=
  ps.length = n ∧ (∀ i, i < n → wfP (ps.getD i (0, 0))) ∧ (n = 0 ∨ ∃ b off, a = some ⟨b, off, none⟩ ∧ b < w.heap.size ∧ ∀ i, i < n → PairAt w b off i (ps.getD i (0, 0)))
/-- What the walk is told of the slice of strings. -/
def IsStrs (w : World) (a : Option Addr) (m : Nat) (ss : Nat → ByteArray) : Prop :=
  m = 0 ∨ ∃ b off, a = some ⟨b, off, none⟩ ∧ b < w.heap.size ∧ ∀ i, i < m → w.cell? ⟨b, off + i, none⟩ = some (.string (ss i))

theorem open_pairs {H : Type} {enc : TypeId × Value → H} {w : World} {a : Option Addr} {n cap fuel : Nat} {x : DataW H × List MemPlace}
    (h : DataW.trod enc Yba.prog w 0 (fun _ => true) true fuel 22 (Value.cells (.slice a n cap)).toList = some x) : ∃ ps, IsPairs w a n ps := by
  rcases Deep.open_slice_pairs Yba.underlying22 Yba.underlying26 cells26 rfl rfl (by kernel_rfl) (by kernel_rfl) h with ⟨hcs, _⟩ | ⟨a', len, cap', m, k, V0, V1, D0, D1, P0, P1, hcs, _, hl, _, hm, _, hc⟩
  · simp [Value.cells] at hcs
    obtain ⟨rfl, rfl, rfl⟩ := hcs
    exact ⟨[], rfl, fun i hi => absurd hi (by omega), .inl rfl⟩
  · simp [Value.cells] at hcs
    obtain ⟨rfl, rfl, rfl⟩ := hcs
    simp only [if_true] at hm
    subst hm
    have each : ∀ i, i < m → ∃ p : Pair, V0 i = i64 p.1 ∧ V1 i = i64 p.2 ∧ wfP p := fun i hi => by
      obtain ⟨_, _, h0, h1⟩ := hc i hi
      obtain ⟨y0, e0, _, w0⟩ := DataW.trod_int Yba.underlying3 h0
      obtain ⟨y1, e1, _, w1⟩ := DataW.trod_int Yba.underlying3 h1
      exact ⟨(y0, y1), by simpa using e0, by simpa using e1, w0, w1⟩
    let f : Nat → Pair := fun i => (intOf (V0 i), intOf (V1 i))
    have hf : ∀ i, i < m → V0 i = i64 (f i).1 ∧ V1 i = i64 (f i).2 ∧ wfP (f i) := fun i hi => by
      obtain ⟨p, e0, e1, hw⟩ := each i hi
      have : f i = p := by simp [f, e0, e1, intOf]
      rw [this]
      exact ⟨e0, e1, hw⟩
    have hget : ∀ i, i < n → ((List.range n).map f).getD i (0, 0) = f i := fun i hi => by simp [List.getD, hi]
    refine ⟨(List.range n).map f, by simp, fun i hi => by rw [hget i hi]; exact (hf i (by omega)).2.2, ?_⟩
    rcases Nat.eq_zero_or_pos n with h0 | h0
    · exact .inl h0
    · right
      obtain ⟨b, off, spot⟩ := a'
      have hspot : spot = none := by simpa [Addr.add] using World.cell?_spot (hc 0 (by omega)).1
      subst hspot
      have c0 := (hc 0 (by omega)).1
      refine ⟨b, off, rfl, by simpa [add_plain] using World.block_lt_of_cell? _ _ c0, fun i hi => ?_⟩
      obtain ⟨h1, h2, _, _⟩ := hc i (by omega)
      rw [add_plain] at h1 h2
      obtain ⟨e0, e1, _⟩ := hf i (by omega)
      rw [hget i hi]
      exact ⟨h1.trans (by rw [e0]), h2.trans (by rw [e1])⟩

theorem open_strs {H : Type} {enc : TypeId × Value → H} {w : World} {a : Option Addr} {m cap fuel : Nat} {x : DataW H × List MemPlace}
    (h : DataW.trod enc Yba.prog w 0 (fun _ => true) true fuel 23 (Value.cells (.slice a m cap)).toList = some x) : ∃ ss, IsStrs w a m ss := by
  rcases open_strings Yba.underlying23 Yba.underlying9 cells9 h with ⟨hcs, _⟩ | ⟨a', len, cap', ss, hcs, _, hl, _, hss, _, hc, _⟩
  · simp [Value.cells] at hcs
    obtain ⟨rfl, rfl, rfl⟩ := hcs
    exact ⟨fun _ => ByteArray.empty, .inl rfl⟩
  · simp [Value.cells] at hcs
    obtain ⟨rfl, rfl, rfl⟩ := hcs
    simp only [if_true] at hss
    refine ⟨fun i => ss.getD i ByteArray.empty, ?_⟩
    rcases Nat.eq_zero_or_pos m with h0 | h0
    · exact .inl h0
    · right
      obtain ⟨b, off, spot⟩ := a'
      have hspot : spot = none := by simpa [Addr.add] using World.cell?_spot (hc 0 (by omega))
      subst hspot
      refine ⟨b, off, rfl, by simpa [add_plain] using World.block_lt_of_cell? _ _ (hc 0 (by omega)), fun i hi => ?_⟩
      have := hc i (by omega)
      rwa [add_plain] at this

set_option maxRecDepth 100000 in
theorem walk (a0 : Option Addr) (n cap : Nat) (ps : List Pair) (a1 : Option Addr) (m mcap : Nat) (ss : Nat → ByteArray) (w : World) (h0 : IsPairs w a0 n ps) (h1 : IsStrs w a1 m ss) :
    Calls Yba.prog 3 #[.slice a0 n cap, .slice a1 m mcap] w fun e w' => e = .returned (.bool true) ∧ Below w.heap.size w w' := by
  by_cases hn : (1024 : Int) < (n : Int)
  · go_enter Yba.func3, Yba.ntmps3
    go_wp2
    go_ret
    exact ⟨rfl, Below.refl _ _⟩
  obtain ⟨hl, hwf, h0 | ⟨b, off, rfl, hb, hc⟩⟩ := h0
  · exact walk_a a0 cap a1 m mcap n ps w hl (by omega) h0 hwf
  rcases h1 with h1 | ⟨ib, ioff, rfl, hib, hs⟩
  · exact walk_b b off cap a1 m mcap n ps w hl (by omega) h1 hwf (fun _ => hb) hc
  · exact walk_c b off cap ib ioff m mcap n ss ps w hl (by omega) hwf (fun _ => hb) (fun _ => hib) hc hs

set_option maxRecDepth 100000 in
theorem lifted (os : Os) (started : os.Started) (H : Type) (enc : TypeId × Value → H) :
    ReturnsInHanded {} Yba.checked os 3 .any (Rows.lawS5148AModelSpec.pre6 enc Yba.prog Yba.f3 Rows.lawS5148AModelRow.domain false) (Rows.lawS5148AModelSpec.post enc Yba.prog Yba.f3 false true false false) := by
  refine returnsInHanded_of_change (C := Yba.checked) own started (by kernel_rfl) Yba.func3
    (ChangeSpec.witness6 (enc := enc) (C := Yba.checked) false ⟨#[], #[.slice none 0 0, .slice none 0 0], []⟩ 8 (by kernel_rfl) (by kernel_rfl) (by kernel_rfl) (by kernel_rfl)) ?_
  intro W base args ds gs before hval0 hW hcnd _
  have hval : ∀ (j : Nat) t v, Yba.f3.params[j]? = some t → args[j]? = some v → Value.okWide Yba.prog W .any base t v := hval0
  have hW' := hW
  obtain ⟨p, q, hA0, hV, rfl, hfz, hnd⟩ := hW
  have hA : DataW.TrodAll enc Yba.prog W 0 (fun _ => true) true Yba.f3.params.toList args.toList ds p := hA0
  rw [Yba.params3] at hA hval
  obtain ⟨v0, vs0, d0, ds0, p0, q0, hargs, rfl, rfl, h0, r0⟩ := trodAll_cons hA
  obtain ⟨v1, vs1, d1, ds1, p1, q1, rfl, rfl, rfl, h1, r1⟩ := trodAll_cons r0
  obtain ⟨rfl, rfl, rfl⟩ := trodAll_nil r1
  obtain rfl : args = #[v0, v1] := by cases args; simp_all
  obtain ⟨rfl, rfl⟩ := trodVars_none hV
  obtain ⟨a0, len0, cap0, rfl⟩ := okWide_slice Yba.underlying22 (hval 0 22 v0 rfl rfl)
  obtain ⟨a1, len1, cap1, rfl⟩ := okWide_slice Yba.underlying23 (hval 1 23 v1 rfl rfl)
  have k0 := h0
  have lt0 : ∀ x ∈ p0, x.block < W.heap.size := by obtain ⟨m, hm⟩ := k0; exact DataW.trod_lt m _ _ _ hm
  have k1 := h1
  have lt1 : ∀ x ∈ p1, x.block < W.heap.size := by obtain ⟨m, hm⟩ := k1; exact DataW.trod_lt m _ _ _ hm
  obtain ⟨ps, w0⟩ : ∃ ps, IsPairs W a0 len0 ps := by obtain ⟨fuel, hf⟩ := h0; exact open_pairs hf
  obtain ⟨ss, w1⟩ : ∃ ss, IsStrs W a1 len1 ss := by obtain ⟨fuel, hf⟩ := h1; exact open_strs hf
  clear hA0 hval0
  refine (walk a0 len0 cap0 ps a1 len1 cap1 ss W w0 w1).mono fun e W' ⟨he, bel⟩ => ?_
  subst he
  exact ⟨_, rfl, _, _, _, [], _, [], hW', trodAll_mk1 (shut_bool Yba.underlying4 _), (trodAll_cons_mk (Below.trod laidOut (by kernel_rfl) (of_decide_eq_true (by kernel_rfl)) k0 bel lt0) (trodAll_cons_mk (Below.trod laidOut (by kernel_rfl) (of_decide_eq_true (by kernel_rfl)) k1 bel lt1) trodAll_mk0)), rfl, bel.frame _, fun h => by cases h⟩

theorem over : Rows.lawS5148AModelRow.holds Yba.pinned (OpenSpec.ofChange Rows.lawS5148AModelSpec) :=
  OpenClaim.holds_of_wide 3 Yba.f3 rfl rfl rfl rfl rfl rfl rfl ⟨rfl, rfl, rfl, rfl, rfl⟩ rfl rfl rfl rfl rfl (by kernel_rfl) Yba.func3 (by kernel_rfl)
    (of_decide_eq_true (by kernel_rfl)) (by unfold Func.isWrapper; first | (rw [if_pos (by decide +kernel)]; kernel_rfl) | (rw [if_neg (by decide +kernel)]; exact ⟨rfl, rfl⟩))
    (fun os started H enc _ => lifted os started H enc)

/-- THE STATEMENT -/
theorem proved : Rows.LawS5148AModelSaid := over
end Go.Proofs.Ybulkdbpa.lawS5148AModel
