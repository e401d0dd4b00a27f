/- b5155aF: 'Rows.LawS5155AOnceToldSaid': the arguments and the variable opened, the walk, the row, the card. After the guide's worked texts on a sentinel and on a told card. -/
import Derived.Test.YbulkdbsuFmtLaw
import Derived.Test.YbulkdbsuFmtTie
import Derived.Test.YbulkdbsuFmtCards
import Derived.OpenShut
import Derived.ProofKit
import Derived.ChangeOld
import Derived.Below
import Derived.Stop.JoinedAt
import Derived.Stop.JoinedTold
import Derived.Stop.Texts
import Derived.Stop.ErrReads
import Derived.Stop.LaidErr
import Derived.SevenTiedAt
namespace Go.Proofs.YbulkdbsuFmt
open Go.ChangeShapes Go.WideShapes Go.ChangeAt Go.RowKit Go.Kit
open Go.Extern.Stop Go.Stop Go.Extern

theorem own : ownKnob Ybaf.prog.godebug = none := by kernel_rfl
theorem laidOut : laidOutB Ybaf.pinned.checked.prog = true := by kernel_rfl
theorem stops : Ybaf.pinned.checked.prog.stops = ["fmt.errorf"] := by kernel_rfl
theorem stopKnobs : Ybaf.pinned.checked.prog.stopKnobs = [] := by kernel_rfl
theorem quiet (os : Os) : Stop.quiet Ybaf.pinned.checked.prog os := by
  intro k hk
  rw [stopKnobs] at hk
  cases hk
theorem cells64 : Ybaf.prog.cellsOf 64 = 1 := by kernel_rfl
theorem cells9 : Ybaf.prog.cellsOf 9 = 1 := by kernel_rfl
theorem cells5 : Ybaf.prog.cellsOf 5 = 1 := by kernel_rfl

/-- One start that fits: the sentinel as its initialiser lays it. -/
def heldWorld (P : Program) (os : Os) (s : ByteArray) : World :=
  let w0 := World.holding P os ⟨#[.cells #[.string s] 64], #[], []⟩
  { w0 with heap := w0.heap.modify 0 fun
      | .cells _ t frozen => .cells #[.iface 62 (.pointer (some ⟨(World.holding P default ⟨#[], #[], []⟩).heap.size, 0, none⟩))] t frozen
      | o => o }
def heldText : ByteArray := ⟨#[99, 97, 110, 110, 111, 116, 32, 102, 101, 116, 99, 104]⟩
theorem held_met (os : Os) (args : Array Value) : laidMet Ybaf.prog Rows.lawS5155AOnceRow.laid ((heldWorld Ybaf.prog os heldText).forCall (fun _ _ => 0) ⟨#[], args, []⟩).memory :=
  laidMet_of_run (ps := [.cell 0 0, .cell (World.holding Ybaf.prog default ⟨#[], #[], []⟩).heap.size 0]) 8 (by kernel_rfl) (by kernel_rfl) (by kernel_rfl)

/-- What the walk is told of the picks. -/
theorem open_picks {H : Type} {enc : TypeId × Value → H} {w : World} {a : Option Addr} {n cap fuel : Nat} {x : DataW H × List MemPlace}
    (h : DataW.trod enc Ybaf.prog w 0 (fun _ => true) true fuel 22 (Value.cells (.slice a n cap)).toList = some x) :
    0 < n → ∃ b o, a = some ⟨b, o, none⟩ ∧ b < w.heap.size ∧ ∀ i, i < n → ∃ z : Nat, z ≤ 255 ∧ w.cell? ⟨b, o + i, none⟩ = some (.int .u8 (z : Int)) := by
  intro h0
  rcases open_ints Ybaf.underlying22 Ybaf.underlying5 cells5 h with ⟨hcs, _⟩ | ⟨a', len, cap', zs, hcs, _, hl, _, hzs, _, hc, hws⟩
  · simp [Value.cells] at hcs
    omega
  · simp [Value.cells] at hcs
    obtain ⟨rfl, rfl, rfl⟩ := hcs
    simp only [if_true] at hzs
    obtain ⟨b, o, spot⟩ := a'
    have hspot : spot = none := by simpa [Addr.add] using World.cell?_spot (hc 0 (by omega))
    subst hspot
    refine ⟨b, o, rfl, by simpa [add_plain] using World.block_lt_of_cell? _ _ (hc 0 (by omega)), fun i hi => ?_⟩
    have h1 := hc i (by omega)
    rw [add_plain] at h1
    have hi' : i < zs.length := by omega
    have h2 : (Lit.int .u8 (zs.getD i 0)).wf = true := by simpa [List.getD, hi'] using hws _ (List.getElem_mem hi')
    have h3 : 0 ≤ zs.getD i 0 ∧ zs.getD i 0 ≤ 255 := by
      have e1 : IntKind.u8.min = 0 := rfl
      have e2 : IntKind.u8.max = 255 := rfl
      simpa [Lit.wf, e1, e2] using h2
    refine ⟨(zs.getD i 0).toNat, by omega, ?_⟩
    rw [h1, Int.toNat_of_nonneg h3.1]

theorem law_all (F : Interp) (ai : Option Addr) (n cap : Nat) (m : Int) (a : Addr) (s : ByteArray) (w : World) (hm0 : 0 ≤ m) (hm1 : m ≤ 255) (hF : F.answers w.tape) (h0 : w.cell? ⟨0, 0, none⟩ = some (.iface 62 (.pointer (some a)))) (hs : w.cell? a = some (.string s))
    (hp : 0 < n → ∃ b o, ai = some ⟨b, o, none⟩ ∧ b < w.heap.size ∧ ∀ i, i < n → ∃ z : Nat, z ≤ 255 ∧ w.cell? ⟨b, o + i, none⟩ = some (.int .u8 (z : Int))) :
    Calls Ybaf.prog 3 #[.slice ai n cap, .int .u8 m] w fun e w' => e = .returned (.bool true) ∧ Below w.heap.size w w' := by
  rcases Nat.lt_or_ge 1024 n with h | h
  · exact law_long ai n cap m w h
  · exact law_short F ai n cap m a s w h hm0 hm1 hF h0 hs hp

theorem var_keep {P : Program} {W W' : World} {n : String} {g : Nat} {cs : Array Value} (hg : P.globalNamed n = some g) (e : W'.heap[g]? = W.heap[g]?) (h : W.var? P n = some cs) : W'.var? P n = some cs := by
  unfold World.var? at h ⊢
  rw [hg] at h ⊢
  simp only [Option.bind_some] at h ⊢
  rw [e]
  exact h

set_option maxRecDepth 100000 in
set_option maxHeartbeats 1000000 in
theorem lifted (os : Os) (started : os.Started) (H : Type) (enc : TypeId × Value → H) :
    ReturnsInTold none {} Ybaf.checked os 3 .any Input.okWide ((OpenSpec.ofChange Rows.lawS5155AOnceSpec).preRow enc Ybaf.prog Ybaf.f3 [] false Rows.lawS5155AOnceRow.laid) (fun F => ((OpenSpec.ofChange Rows.lawS5155AOnceSpec).at F).post enc Ybaf.prog Ybaf.f3 false true false false) (aloneAtReturn Ybaf.prog) nothingAlways := by
  refine returnsInTold_of_row (C := Ybaf.checked) (s := OpenSpec.ofChange Rows.lawS5155AOnceSpec) (by kernel_rfl) own started (by kernel_rfl) Ybaf.func3
    (OpenSpec.witness_stopped_at (enc := enc) (C := Ybaf.checked) false (heldWorld Ybaf.prog os heldText) #[.slice none 0 0, .int .u8 0] rfl (by kernel_rfl) (by kernel_rfl) (by kernel_rfl)
      (OpenSpec.preRow_of_B rfl 8 (by kernel_rfl) (by kernel_rfl) (held_met os _))) ?_
  intro F W base args ds gs before _ hF hval0 hW _ _ _ hL _
  have hval : ∀ (j : Nat) t v, Ybaf.f3.params[j]? = some t → args[j]? = some v → Value.okWide Ybaf.prog W .any base t v := hval0
  have hW' := hW
  obtain ⟨p, q, hA0, hV0, rfl, hfz, hnd⟩ := hW
  have hA : DataW.TrodAll enc Ybaf.prog W 0 (fun _ => true) true Ybaf.f3.params.toList args.toList ds p := hA0
  rw [Ybaf.params3] at hA hval
  obtain ⟨v0, v1, d0, d1, p0, p1, rfl, rfl, rfl, h0, h1⟩ := trodAll_two hA
  have gO : Ybaf.prog.globalNamed _ = some 0 := (by kernel_rfl : Ybaf.prog.globalNamed (Rows.lawS5155AOnceRow.named.headD default) = some 0)
  have gT : (Ybaf.prog.globals[0]?).map (·.type) = some 34 := by kernel_rfl
  obtain ⟨a1, s1, hv1, hc1, hs1, hz1⟩ := laid_sentinel hL gO gT Ybaf.underlying34 (fun u h => typeName_ptr_named (tp := 62) (nm := "errors.errorString") (by kernel_rfl) (by kernel_rfl) (by decide) u (h.trans (congrArg some (by decide)))) Ybaf.underlying62 Ybaf.underlying64 rfl rfl Ybaf.underlying9 cells64 cells9
  have hV : DataW.TrodVars enc Ybaf.prog W (fun _ => true) [Rows.lawS5155AOnceRow.named.headD default] gs q := hV0
  obtain ⟨rfl, rfl⟩ := hV.unique (vars_read1 enc gO gT Ybaf.underlying34 hv1 trivial _)
  have hg1 : W.cell? ⟨0, 0, none⟩ = some (.iface 62 (.pointer (some a1))) := by simpa using World.var?_cell gO hv1 0
  obtain ⟨m, rfl, rfl, rfl, wm⟩ := open_int Ybaf.underlying5 (hval 1 5 v1 rfl rfl) h1
  obtain ⟨b0, len0, cap0, rfl⟩ := okWide_slice Ybaf.underlying22 (hval 0 22 v0 rfl rfl)
  have k0 := h0
  have lt0 : ∀ x ∈ p0, x.block < W.heap.size := by obtain ⟨fl, hm⟩ := k0; exact DataW.trod_lt fl _ _ _ hm
  have hp := (by obtain ⟨fuel, hf⟩ := h0; exact open_picks hf : 0 < len0 → ∃ b o, b0 = some ⟨b, o, none⟩ ∧ b < W.heap.size ∧ ∀ i, i < len0 → ∃ z : Nat, z ≤ 255 ∧ W.cell? ⟨b, o + i, none⟩ = some (.int .u8 (z : Int)))
  have hmb : 0 ≤ m ∧ m ≤ 255 := by
    have e1 : IntKind.u8.min = 0 := rfl
    have e2 : IntKind.u8.max = 255 := rfl
    simpa [Lit.wf, e1, e2] using wm
  clear hA0 hV0 hval0
  refine (law_all F.told b0 len0 cap0 m a1 s1 W hmb.1 hmb.2 hF hg1 hc1 hp).mono fun e W' ⟨he, bel⟩ => ?_
  subst he
  have hv2 : W'.var? Ybaf.prog (Rows.lawS5155AOnceRow.named.headD default) = some #[.iface 62 (.pointer (some a1))] := var_keep gO (bel.block 0 (World.block_lt_of_cell? _ _ hg1)) hv1
  exact ⟨_, rfl, _, _, _, [], _, [.cell 0 0], hW', trodAll_mk1 (shut_bool Ybaf.underlying4 _), trodAll_mk2 (Below.trod laidOut (by kernel_rfl) (of_decide_eq_true (by kernel_rfl)) k0 bel lt0) (shut_int Ybaf.underlying5 wm), vars_read1 enc gO gT Ybaf.underlying34 hv2 trivial _, bel.frame _, fun h => by cases h⟩

/-- THE STATEMENT. -/
theorem proved : Rows.LawS5155AOnceToldSaid :=
  Claim7.holds_of_told_tied_any_at .later 3 Ybaf.f3 "fmt.errorf" [] [] _ _ _ _ _ (by kernel_rfl) rfl rfl rfl laidOut (by kernel_rfl) rfl ⟨rfl, rfl, rfl, rfl, rfl, rfl, rfl⟩ rfl rfl (by kernel_rfl) (by kernel_rfl) Ybaf.func3 (by kernel_rfl)
    (of_decide_eq_true (by kernel_rfl)) (of_decide_eq_true (by kernel_rfl)) stops.symm rfl stopKnobs.symm (by kernel_rfl)
    (by kernel_rfl) (by kernel_rfl) (by kernel_rfl) (by kernel_rfl) (by kernel_rfl) (by kernel_rfl) (by kernel_rfl) (by kernel_rfl) (by kernel_rfl) rfl (by kernel_rfl) rfl rfl
    rfl rfl
    rfl (by kernel_rfl) (by kernel_rfl) (by kernel_rfl) (by decide) (by kernel_rfl) lawS5155AOnce_row_tie
    (OpenClaim.moreEntering_of (by kernel_rfl) (by kernel_rfl) (by kernel_rfl) (by kernel_rfl) (by kernel_rfl) (by kernel_rfl) (by kernel_rfl) (by kernel_rfl) (by kernel_rfl) (by kernel_rfl))
    ⟨_, WideRow.started_initial, quiet _⟩
    (fun os started _ H enc _ => lifted os started H enc)
end Go.Proofs.YbulkdbsuFmt
