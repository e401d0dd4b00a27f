/- b5153a: 'Rows.LawS5153CLastSaid': the arguments opened, the walks joined, the row. After the frame that the guide's program writes for laws. -/
import Derived.Test.YbulkdbrsLastWalk
import Derived.OpenShut
import Derived.ShutString
import Derived.ChangeOld
import Derived.Below
import Derived.SliceStrings
namespace Go.Proofs.Ybulkdbrs.lawS5153CLast
open Go.ChangeShapes Go.WideShapes Go.ChangeAt Go.RowKit
open Go.ChangeMaps (open_string shut_string)

theorem own : ownKnob Yba.prog.godebug = none := by kernel_rfl
theorem laidOut : laidOutB Yba.prog = true := by kernel_rfl
theorem cells9 : Yba.prog.cellsOf 9 = 1 := by kernel_rfl

/-- What the walk is told of the slice of strings. -/
def IsStrs (w : World) (a : Option Addr) (m : Nat) (ss : Nat → ByteArray) : Prop :=
  m = 0 ∨ ∃ b off, a = some ⟨b, off, none⟩ ∧ b < w.heap.size ∧ ∀ i, i < m → w.cell? ⟨b, off + i, none⟩ = some (.string (ss i))

theorem open_strs {H : Type} {enc : TypeId × Value → H} {w : World} {a : Option Addr} {m cap fuel : Nat} {x : DataW H × List MemPlace}
    (h : DataW.trod enc Yba.prog w 0 (fun _ => true) true fuel 22 (Value.cells (.slice a m cap)).toList = some x) : ∃ ss, IsStrs w a m ss := by
  rcases open_strings Yba.underlying22 Yba.underlying9 cells9 h with ⟨hcs, _⟩ | ⟨a', len, cap', ss, hcs, _, hl, _, hss, _, hc, _⟩
  · simp [Value.cells] at hcs
    obtain ⟨rfl, rfl, rfl⟩ := hcs
    exact ⟨fun _ => ByteArray.empty, .inl rfl⟩
  · simp [Value.cells] at hcs
    obtain ⟨rfl, rfl, rfl⟩ := hcs
    simp only [if_true] at hss
    refine ⟨fun i => ss.getD i ByteArray.empty, ?_⟩
    rcases Nat.eq_zero_or_pos m with h0 | h0
    · exact .inl h0
    · right
      obtain ⟨b, off, spot⟩ := a'
      have hspot : spot = none := by simpa [Addr.add] using World.cell?_spot (hc 0 (by omega))
      subst hspot
      refine ⟨b, off, rfl, by simpa [add_plain] using World.block_lt_of_cell? _ _ (hc 0 (by omega)), fun i hi => ?_⟩
      have := hc i (by omega)
      rwa [add_plain] at this

theorem walk (a0 : Option Addr) (n cap : Nat) (ss : Nat → ByteArray) (a1 : ByteArray) (a2 a3 a4 : Int) (w : World) (h0 : IsStrs w a0 n ss) :
    Calls Yba.prog 3 #[.slice a0 n cap, .string a1, .int .u8 a2, .int .i64 a3, .int .i64 a4] w fun e w' => e = .returned (.bool true) ∧ Below w.heap.size w w' := by
  by_cases hn : (1024 : Int) < (n : Int)
  · go_enter Yba.func3, Yba.ntmps3
    go_wp2
    go_ret
    exact ⟨rfl, Below.refl _ _⟩
  rcases Nat.eq_zero_or_pos n with hz | hz
  · exact walk_zero a0 n cap ss a1 a2 a3 a4 w hz
  rcases h0 with h0 | ⟨b, off, rfl, hb, hc⟩
  · exact absurd h0 (by omega)
  · exact walk_row b off n cap ss a1 a2 a3 a4 w (by omega) hz hb hc

set_option maxRecDepth 100000 in
theorem lifted (os : Os) (started : os.Started) (H : Type) (enc : TypeId × Value → H) :
    ReturnsInHanded {} Yba.checked os 3 .any (Rows.lawS5153CLastSpec.pre6 enc Yba.prog Yba.f3 Rows.lawS5153CLastRow.domain false) (Rows.lawS5153CLastSpec.post enc Yba.prog Yba.f3 false true false false) := by
  refine returnsInHanded_of_change (C := Yba.checked) own started (by kernel_rfl) Yba.func3
    (ChangeSpec.witness6 (enc := enc) (C := Yba.checked) false ⟨#[], #[.slice none 0 0, .string ByteArray.empty, .int .u8 0, .int .i64 0, .int .i64 0], []⟩ 8 (by kernel_rfl) (by kernel_rfl) (by kernel_rfl) (by kernel_rfl)) ?_
  intro W base args ds gs before hval0 hW hcnd _
  have hval : ∀ (j : Nat) t v, Yba.f3.params[j]? = some t → args[j]? = some v → Value.okWide Yba.prog W .any base t v := hval0
  have hW' := hW
  obtain ⟨p, q, hA0, hV, rfl, hfz, hnd⟩ := hW
  have hA : DataW.TrodAll enc Yba.prog W 0 (fun _ => true) true Yba.f3.params.toList args.toList ds p := hA0
  rw [Yba.params3] at hA hval
  obtain ⟨v0, vs0, d0, ds0, p0, q0, hargs, rfl, rfl, h0, r0⟩ := trodAll_cons hA
  obtain ⟨v1, vs1, d1, ds1, p1, q1, rfl, rfl, rfl, h1, r1⟩ := trodAll_cons r0
  obtain ⟨v2, vs2, d2, ds2, p2, q2, rfl, rfl, rfl, h2, r2⟩ := trodAll_cons r1
  obtain ⟨v3, vs3, d3, ds3, p3, q3, rfl, rfl, rfl, h3, r3⟩ := trodAll_cons r2
  obtain ⟨v4, vs4, d4, ds4, p4, q4, rfl, rfl, rfl, h4, r4⟩ := trodAll_cons r3
  obtain ⟨rfl, rfl, rfl⟩ := trodAll_nil r4
  obtain rfl : args = #[v0, v1, v2, v3, v4] := by cases args; simp_all
  obtain ⟨rfl, rfl⟩ := trodVars_none hV
  obtain ⟨a0, len0, cap0, rfl⟩ := okWide_slice Yba.underlying22 (hval 0 22 v0 rfl rfl)
  have k0 := h0
  have lt0 : ∀ x ∈ p0, x.block < W.heap.size := by obtain ⟨m, hm⟩ := k0; exact DataW.trod_lt m _ _ _ hm
  obtain ⟨ss, w0⟩ : ∃ ss, IsStrs W a0 len0 ss := by obtain ⟨fuel, hf⟩ := h0; exact open_strs hf
  obtain ⟨a1, rfl, rfl, rfl, w1⟩ := open_string Yba.underlying9 (hval 1 9 v1 rfl rfl) h1
  obtain ⟨a2, rfl, rfl, rfl, w2⟩ := open_int Yba.underlying5 (hval 2 5 v2 rfl rfl) h2
  obtain ⟨a3, rfl, rfl, rfl, w3⟩ := open_int Yba.underlying3 (hval 3 3 v3 rfl rfl) h3
  obtain ⟨a4, rfl, rfl, rfl, w4⟩ := open_int Yba.underlying3 (hval 4 3 v4 rfl rfl) h4
  clear hA0 hval0
  refine (walk a0 len0 cap0 ss a1 a2 a3 a4 W w0).mono fun e W' ⟨he, bel⟩ => ?_
  subst he
  exact ⟨_, rfl, _, _, _, [], _, [], hW', trodAll_mk1 (shut_bool Yba.underlying4 _), (trodAll_cons_mk (Below.trod laidOut (by kernel_rfl) (of_decide_eq_true (by kernel_rfl)) k0 bel lt0) (trodAll_cons_mk (shut_string Yba.underlying9 w1) (trodAll_cons_mk (shut_int Yba.underlying5 w2) (trodAll_cons_mk (shut_int Yba.underlying3 w3) (trodAll_cons_mk (shut_int Yba.underlying3 w4) trodAll_mk0))))), rfl, bel.frame _, fun h => by cases h⟩

theorem over : Rows.lawS5153CLastRow.holds Yba.pinned (OpenSpec.ofChange Rows.lawS5153CLastSpec) :=
  OpenClaim.holds_of_wide 3 Yba.f3 rfl rfl rfl rfl rfl rfl rfl ⟨rfl, rfl, rfl, rfl, rfl⟩ rfl rfl rfl rfl rfl (by kernel_rfl) Yba.func3 (by kernel_rfl)
    (of_decide_eq_true (by kernel_rfl)) (by unfold Func.isWrapper; first | (rw [if_pos (by decide +kernel)]; kernel_rfl) | (rw [if_neg (by decide +kernel)]; exact ⟨rfl, rfl⟩))
    (fun os started H enc _ => lifted os started H enc)

/-- THE STATEMENT -/
theorem proved : Rows.LawS5153CLastSaid := over
end Go.Proofs.Ybulkdbrs.lawS5153CLast
