/- b5155aF: (*resolver).get (function 9) by its contracts: a name that has not been fetched, the fetch failing. -/
import Derived.Test.YbulkdbsuFmtMiss
import Derived.Test.YbulkdbsuFmtErrorf
import Derived.Deep.RegionHeld3
namespace Go.Proofs.YbulkdbsuFmt
open Go.RowKit Go.Maps Go.WideMaps Go.Extern.Stop Go.Stop Go.Extern

variable {B0 R G n : Nat} {D : DataW Value} {X O U L M fm Bs E V base : Nat} {us : Nat → ByteArray} {m : Int} {t : ByteArray} {a : Addr} {s : ByteArray} {mk : Nat → Option Addr} {lv : Value} {ks : List Nat} {w w' : World}

theorem two_alloc {b : Nat} (hb : b < w.heap.size) {o o' : Obj} : ((w.alloc o).alloc o').drew.heap[b]? = w.heap[b]? := by
  show ((w.alloc o).alloc o').heap[b]? = _
  rw [Below.heap_alloc _ _ _ (by simp; omega), Below.heap_alloc _ _ _ hb]

set_option maxHeartbeats 300000 in
set_option maxRecDepth 100000 in
theorem get_fail {k : Nat} (F : Interp) (hF : F.answers w.tape) (Y : Lay B0 R G X U L M fm Bs E base a) (hB : B0 ≤ base) (h : St R G n D X O U L M fm Bs E V base us m t a s mk lv ks w) (hA : Apart us) (hk : k < 4) (hm0 : 0 ≤ m) (hm1 : m ≤ 255) (hn : ks.length ≤ 4) (hfb : (bits BinOp.and IntKind.u8 (m / 2 ^ k) 1 == 1) = true)
    (hu : (us k).size ≤ maxLen) (hn9 : n ≤ 4) (hh : Maps.has D (.string (us k).data.toList) = false) :
    Calls Ybaf.prog 9 #[.pointer (some ⟨R, 0, none⟩), .string (us k)] w fun e w' => ∃ r q, e = .returned (.tuple #[.pointer (some ⟨r, 0, none⟩), .iface 74 (.pointer (some ⟨q, 0, none⟩))]) ∧ ∃ lv', Left9 B0 L M G lv w r lv' w' ∧ (w'.cell? ⟨q, 1, none⟩ = some (.iface 62 (.pointer (some a))) ∧ w.heap.size ≤ q ∧ q < w'.heap.size ∧ some q ≠ lv'.ownBlock) ∧
      St R G (n + 1) (D.put (.string (us k).data.toList) (.held (.agg #[.pointer (some ⟨r, 0, none⟩), .iface 74 (.pointer (some ⟨q, 0, none⟩))]))) X O U L M fm Bs E V base us m t a s (mkPut mk k r) lv' (ks ++ [k]) w' := by
  have hl := look_miss hu h.map hh
  obtain ⟨u, hu'⟩ : ∃ u, u = us k := ⟨_, rfl⟩
  have Hu : Hid (u = us k) := hu'
  rw [← hu'] at hl ⊢
  have hR2 := h.hR2
  have H : Hid (St R G n D X O U L M fm Bs E V base us m t a s mk lv ks w) := h
  have hb := h.hbase
  have hsz : base ≤ w.heap.size := hb
  rw [← hu'] at hu
  clear hu' h
  go_enter Ybaf.func9, Ybaf.ntmps9
  go_wp2
  obtain ⟨W, hW⟩ : ∃ W, W = w.alloc (.cells #[.pointer none, .nilIface] 66) := ⟨_, rfl⟩
  rw [← hW]
  have hsW : W.heap.size = w.heap.size + 1 := by rw [hW]; simp
  obtain ⟨Fb, hFb⟩ : ∃ Fb, Fb = w.heap.size := ⟨_, rfl⟩
  rw [← hFb]
  have HW : Hid (W = w.alloc (.cells #[.pointer none, .nilIface] 66)) := hW
  have H1 : Hid (St R G n D X O U L M fm Bs E V base us m t a s mk lv ks W) := hW ▸ St.alloc Y hB H _
  have hF0 : W.cell? ⟨Fb, 0, none⟩ = some (.pointer none) := by rw [hW, hFb]; go_simp
  have hF1 : W.cell? ⟨Fb, 1, none⟩ = some .nilIface := by rw [hW, hFb]; go_simp
  have hz0 : W.frozen? ⟨Fb, 0, none⟩ = false := by rw [hW, hFb]; go_simp
  have hz1 : W.frozen? ⟨Fb, 1, none⟩ = false := by rw [hW, hFb]; go_simp
  have c0 := H1.out.hR0
  have c1 := H1.out.hR1
  have HF : Hid (Fb = w.heap.size) := hFb
  have HC : Hid _ := (fetch_fail B0 X O U L M fm Bs E V base k us m t mk lv ks W.drew hA hk hm0 hm1 hn H1.out.hbase Y.l1 Y.l2 Y.l3 Y.l4 Y.d1 Y.d2 Y.d3 Y.d4 Y.d5 Y.b1 Y.b2 hfb (St.drewN H1 1).fix H1.out.cL H1.out.fL H1.out.cM H1.out.own)
  rw [← Hu.out] at HC
  have hFL : Fb ≠ L := fun e => by have := Y.l1; omega
  have hFM : Fb ≠ M := fun e => by have := Y.l2; omega
  have hFG : ¬ Fb = G := fun e => by have := Y.l6; omega
  have hFo : some Fb ≠ lv.ownBlock := fun e => by have := (H.out.own_lt e.symm).2; omega
  have hFR : ¬ Fb = R := fun e => by have := Y.l5; omega
  have hRF : ¬ R = Fb := fun e => hFR e.symm
  have HY : Hid (Lay B0 R G X U L M fm Bs E base a) := Y
  have hWl : Fb < W.heap.size := by omega
  clear hl hR2 hW hFb Y hsz hsW hb hh
  go_region_held3 (fun W' : World => W'.cell? ⟨R, 0, none⟩ = some (.iface 56 (.pointer (some ⟨V, 0, none⟩))) ∧ W'.cell? ⟨R, 1, none⟩ = some (clo X O U L M fm Bs)) (go_keep) ((go_at_call 7; refine Calls.mono HC.out ?_; rintro e w2 ⟨r, rfl, lv', h7⟩; have H2 : Hid _ := St.fetched HY.out hB (St.drewN H1.out 1) h7; have k0 := H2.out.hR0; have k1 := H2.out.hR1; have eF : w2.heap[Fb]? = W.heap[Fb]? := h7.kept Fb hWl hFL hFM hFo; have f0 := (cell_keep eF 0).trans hF0; have f1 := (cell_keep eF 1).trans hF1; have g0 := (frozen_keep eF 0).trans hz0; have g1 := (frozen_keep eF 1).trans hz1; have H7 : Hid _ := h7; clear h7 eF))
  obtain ⟨W3, hW3⟩ : ∃ W3, W3 = (w2.setCell ⟨Fb, 0, none⟩ (.pointer (some ⟨r, 0, none⟩))).setCell ⟨Fb, 1, none⟩ (.iface 62 (.pointer (some ⟨E, 0, none⟩))) := ⟨_, rfl⟩
  rw [← hW3]
  have hlo : some Fb ≠ lv'.ownBlock := fun e => by
    rcases H7.out.row Fb e.symm with h | h
    · exact hFo h.symm
    · exact absurd hWl (Nat.not_lt.2 h)
  have hbF : base ≤ Fb := by rw [HF.out]; exact H.out.hbase
  have H3 : Hid (St R G n D X O U L M fm Bs E V base us m t a s (mkPut mk k r) lv' (ks ++ [k]) W3) := by
    rw [hW3]; exact (H2.out.setCell HY.out hB (p := ⟨Fb, 0, none⟩) hbF hlo _).setCell HY.out hB (p := ⟨Fb, 1, none⟩) hbF hlo _
  have e0 : W3.cell? ⟨Fb, 0, none⟩ = some (.pointer (some ⟨r, 0, none⟩)) := by rw [hW3]; go_simp
  have e1 : W3.cell? ⟨Fb, 1, none⟩ = some (.iface 62 (.pointer (some ⟨E, 0, none⟩))) := by rw [hW3]; go_simp
  have z1 : W3.frozen? ⟨Fb, 1, none⟩ = false := by rw [hW3]; go_simp
  have HW3 : Hid (W3 = (w2.setCell ⟨Fb, 0, none⟩ (.pointer (some ⟨r, 0, none⟩))).setCell ⟨Fb, 1, none⟩ (.iface 62 (.pointer (some ⟨E, 0, none⟩)))) := hW3
  have gg := H3.out.g0
  have hF3 : F.answers W3.tape := by
    have e : W3.tape = w.tape := by
      rw [hW3]; show w2.tape = w.tape; rw [H7.out.below.tape, HW.out]; rfl
    rw [e]; exact hF
  clear hW3 f0 f1 g0 g1 k0 k1 hF0 hF1 hz0 hz1 c0 c1 HC hF
  go_wp2_with (go_at_call 12; (refine Calls.mono (errorf_any F a ⟨E, 0, none⟩ s u t _ _ (by exact hF3) (by go_simp) (by go_simp) (by go_simp) (by exact (World.cell?_alloc_lt _ _ _ (World.block_lt_of_cell? _ _ H3.out.sa)).trans H3.out.sa) (by exact (World.cell?_alloc_lt _ _ _ (World.block_lt_of_cell? _ _ H3.out.fix.cE)).trans H3.out.fix.cE)) ?_; rintro e w5 ⟨rfl, hw5⟩; have sF : Fb < W3.heap.size := World.block_lt_of_cell? _ _ e1; have eF : w5.heap[Fb]? = W3.heap[Fb]? := (by rw [hw5]; exact two_alloc sF); have x0 := (cell_keep eF 0).trans e0; have x1 := (cell_keep eF 1).trans e1; have y1 := (frozen_keep eF 1).trans z1; have HW5 : Hid _ := hw5; clear hw5 eF sF))
  obtain ⟨q, hq⟩ : ∃ q, q = W3.heap.size + 1 := ⟨_, rfl⟩
  rw [← hq]
  obtain ⟨W6, hW6⟩ : ∃ W6, W6 = w5.setCell ⟨Fb, 1, none⟩ (.iface 74 (.pointer (some ⟨q, 0, none⟩))) := ⟨_, rfl⟩
  rw [← hW6]
  have sF : Fb < W3.heap.size := World.block_lt_of_cell? _ _ e1
  have H5 : Hid (St R G n D X O U L M fm Bs E V base us m t a s (mkPut mk k r) lv' (ks ++ [k]) w5) := by
    rw [HW5.out]; exact ((H3.out.alloc HY.out hB _).alloc HY.out hB _).drewN 1
  have H6 : Hid (St R G n D X O U L M fm Bs E V base us m t a s (mkPut mk k r) lv' (ks ++ [k]) W6) := by
    rw [hW6]; exact H5.out.setCell HY.out hB (p := ⟨Fb, 1, none⟩) hbF hlo _
  have p0 : W6.cell? ⟨Fb, 0, none⟩ = some (.pointer (some ⟨r, 0, none⟩)) := by rw [hW6]; go_simp
  have p1 : W6.cell? ⟨Fb, 1, none⟩ = some (.iface 74 (.pointer (some ⟨q, 0, none⟩))) := by rw [hW6]; go_simp
  have hqF : ¬ q = Fb := by omega
  have hqG : ¬ q = G := by have := HY.out.l6; omega
  have pq5 : w5.cell? ⟨q, 1, none⟩ = some (.iface 62 (.pointer (some a))) := by rw [HW5.out, hq]; go_simp
  have pq : W6.cell? ⟨q, 1, none⟩ = some (.iface 62 (.pointer (some a))) := by
    rw [hW6, World.cell?_setCell_far _ _ _ _ (by exact fun e => hqF e.symm)]; exact pq5
  have HW6 : Hid (W6 = w5.setCell ⟨Fb, 1, none⟩ (.iface 74 (.pointer (some ⟨q, 0, none⟩)))) := hW6
  have c2 := H6.out.hR2
  obtain ⟨W4, hrun, hm4, hg4⟩ := (H6.out.map.drew).update law9 Ybaf.underlying48 (by unfold maxLen; omega) (keyOf_string_mk (P := Ybaf.prog) Ybaf.underlying9 hu) (d := .held (.agg #[.pointer (some ⟨r, 0, none⟩), .iface 74 (.pointer (some ⟨q, 0, none⟩))])) (val := .agg #[.pointer (some ⟨r, 0, none⟩), .iface 74 (.pointer (some ⟨q, 0, none⟩))]) (ps := []) rfl
  have HM4 : Hid _ := hm4
  have HG4 : Hid _ := hg4
  have s0 : W4.cell? ⟨Fb, 0, none⟩ = some (.pointer (some ⟨r, 0, none⟩)) := (hg4.cell_far ⟨Fb, 0, none⟩ (World.block_lt_of_cell? _ _ p0) (fun e => hFG (Option.some.inj e))).trans p0
  have s1 : W4.cell? ⟨Fb, 1, none⟩ = some (.iface 74 (.pointer (some ⟨q, 0, none⟩))) := (hg4.cell_far ⟨Fb, 1, none⟩ (World.block_lt_of_cell? _ _ p1) (fun e => hFG (Option.some.inj e))).trans p1
  have sq : W4.cell? ⟨q, 1, none⟩ = some (.iface 62 (.pointer (some a))) := (hg4.cell_far ⟨q, 1, none⟩ (World.block_lt_of_cell? _ _ pq) (fun e => hqG (Option.some.inj e))).trans pq
  have HQ : Hid (q = W3.heap.size + 1) := hq
  clear hW6 hm4 hg4 x0 x1 y1 e0 e1 z1 hq pq5
  go_region
  go_wp2
  go_quiet (fail)
  go_wp2
  go_ret2
  have hb0 : B0 ≤ w.heap.size := Nat.le_trans hB H.out.hbase
  have hb2 : B0 ≤ Fb := Nat.le_trans hB hbF
  have z3 : W3.heap.size = w2.heap.size := by rw [HW3.out]; simp [World.setCell]
  have h3 : Below B0 w2 W3 := HW3.out ▸ ((Below.refl B0 w2).setCell (p := ⟨Fb, 0, none⟩) hb2 _).setCell (p := ⟨Fb, 1, none⟩) hb2 _
  have h5 : Below B0 w2 w5 := by
    rw [HW5.out]; exact below_drewN ((h3.alloc (by omega) _).alloc (by simp; omega) _) 1
  have h6 : Below B0 w2 W6 := by
    rw [HW6.out]; exact h5.setCell (p := ⟨Fb, 1, none⟩) hb2 _
  have L9 : Left9 B0 L M G lv w r lv' W4 := left9 hb0 HY.out.b3 HW.out HF.out H7.out h6 (fun j hl hj => by rw [HW6.out, Below.heap_setCell _ _ _ _ hj, HW5.out, two_alloc (by omega), HW3.out, Below.heap_setCell _ _ _ _ hj, Below.heap_setCell _ _ _ _ hj]) HG4.out
  have hqo : some q ≠ lv'.ownBlock := fun e => by have := (H2.out.own_lt e.symm).2; have := HQ.out; omega
  have hqw : w.heap.size ≤ q := by have := HQ.out; have := HF.out; omega
  refine ⟨r, q, rfl, lv', left9_drewN L9 _, ⟨sq, hqw, World.block_lt_of_cell? _ _ sq, hqo⟩, St.drewN (St.updated HY.out hB (St.drewN H6.out 1) HM4.out HG4.out) _⟩
end Go.Proofs.YbulkdbsuFmt
