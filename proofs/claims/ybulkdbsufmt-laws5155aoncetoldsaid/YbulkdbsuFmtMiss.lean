/- b5155aF: (*resolver).get (function 9) by its contracts: a name that has not been fetched. -/
import Derived.Test.YbulkdbsuFmtSt
import Derived.Test.YbulkdbsuFmtErrorf
import Derived.Deep.RegionHeld3
namespace Go.Proofs.YbulkdbsuFmt
open Go.RowKit Go.Maps Go.WideMaps

variable {B0 R G n : Nat} {D : DataW Value} {X O U L M fm Bs E V base : Nat} {us : Nat → ByteArray} {m : Int} {t : ByteArray} {a : Addr} {s : ByteArray} {mk : Nat → Option Addr} {lv : Value} {ks : List Nat} {w w' : World}

theorem left9_drewN {r : Nat} {lv' : Value} (h : Left9 B0 L M G lv w r lv' w') (q : Nat) : Left9 B0 L M G lv w r lv' (w'.drewN q) := ⟨h.new, h.row, h.kept, below_drewN h.below q⟩

theorem left9 {k r Fb : Nat} {o : Obj} {lv' : Value} {W w2 W3 W4 : World} (hB0 : B0 ≤ w.heap.size) (b3 : B0 ≤ G) (hW : W = w.alloc o) (hF : Fb = w.heap.size) (h7 : Left7 B0 base L M k mk lv ks W.drew r lv' w2) (h3 : Below B0 w2 W3) (k3 : ∀ j, j < w2.heap.size → j ≠ Fb → W3.heap[j]? = w2.heap[j]?) (h4 : W3.drew.grownBy W4 (some G)) :
    Left9 B0 L M G lv w r lv' W4 := by
  have s1 : W.drew.heap.size = w.heap.size + 1 := by rw [hW]; simp
  have s2 := h7.below.size
  have s3 := h3.size
  have s4 : W3.heap.size ≤ W4.heap.size := h4.size
  have n := h7.new
  refine ⟨⟨by omega, by omega⟩, fun g hg => ?_, fun j hj n1 n2 n3 n4 => ?_, ?_⟩
  · rcases h7.row g hg with h | h
    · exact .inl h
    · right; omega
  · have e4 : W4.heap[j]? = W3.heap[j]? := h4.block j (show j < W3.heap.size by omega) (fun e => n3 (Option.some.inj e))
    have e2 : w2.heap[j]? = W.heap[j]? := h7.kept j (by omega) n1 n2 n4
    rw [e4, k3 j (by omega) (by omega), e2, hW, Below.heap_alloc _ _ _ hj]
  · have h1 : Below B0 w W.drew := by rw [hW]; exact below_drewN ((Below.refl B0 w).alloc hB0 o) 1
    have h5 : Below B0 w W3.drew := below_drewN ((h1.trans h7.below).trans h3) 1
    exact h5.grown h4 (show B0 ≤ W3.heap.size by omega) (fun k hk => by have := Option.some.inj hk; omega)

set_option maxHeartbeats 300000 in
set_option maxRecDepth 100000 in
theorem get_ok {k : Nat} (Y : Lay B0 R G X U L M fm Bs E base a) (hB : B0 ≤ base) (h : St R G n D X O U L M fm Bs E V base us m t a s mk lv ks w) (hA : Apart us) (hk : k < 4) (hm0 : 0 ≤ m) (hm1 : m ≤ 255) (hn : ks.length ≤ 4) (hfb : (bits BinOp.and IntKind.u8 (m / 2 ^ k) 1 == 1) = false)
    (hu : (us k).size ≤ maxLen) (hn9 : n ≤ 4) (hh : Maps.has D (.string (us k).data.toList) = false) :
    Calls Ybaf.prog 9 #[.pointer (some ⟨R, 0, none⟩), .string (us k)] w fun e w' => ∃ r, e = .returned (.tuple #[.pointer (some ⟨r, 0, none⟩), .nilIface]) ∧ ∃ lv', Left9 B0 L M G lv w r lv' w' ∧
      St R G (n + 1) (D.put (.string (us k).data.toList) (.held (.agg #[.pointer (some ⟨r, 0, none⟩), .nilIface]))) X O U L M fm Bs E V base us m t a s (mkPut mk k r) lv' (ks ++ [k]) w' := by
  have hl := look_miss hu h.map hh
  obtain ⟨u, hu'⟩ : ∃ u, u = us k := ⟨_, rfl⟩
  have Hu : Hid (u = us k) := hu'
  rw [← hu'] at hl ⊢
  have hR2 := h.hR2
  have H : Hid (St R G n D X O U L M fm Bs E V base us m t a s mk lv ks w) := h
  have hb := h.hbase
  have hsz : base ≤ w.heap.size := hb
  rw [← hu'] at hu
  clear hu' h
  go_enter Ybaf.func9, Ybaf.ntmps9
  go_wp2
  obtain ⟨W, hW⟩ : ∃ W, W = w.alloc (.cells #[.pointer none, .nilIface] 66) := ⟨_, rfl⟩
  rw [← hW]
  have hsW : W.heap.size = w.heap.size + 1 := by rw [hW]; simp
  obtain ⟨Fb, hFb⟩ : ∃ Fb, Fb = w.heap.size := ⟨_, rfl⟩
  rw [← hFb]
  have HW : Hid (W = w.alloc (.cells #[.pointer none, .nilIface] 66)) := hW
  have H1 : Hid (St R G n D X O U L M fm Bs E V base us m t a s mk lv ks W) := hW ▸ St.alloc Y hB H _
  have hF0 : W.cell? ⟨Fb, 0, none⟩ = some (.pointer none) := by rw [hW, hFb]; go_simp
  have hF1 : W.cell? ⟨Fb, 1, none⟩ = some .nilIface := by rw [hW, hFb]; go_simp
  have hz0 : W.frozen? ⟨Fb, 0, none⟩ = false := by rw [hW, hFb]; go_simp
  have hz1 : W.frozen? ⟨Fb, 1, none⟩ = false := by rw [hW, hFb]; go_simp
  have c0 := H1.out.hR0
  have c1 := H1.out.hR1
  have HF : Hid (Fb = w.heap.size) := hFb
  have HC : Hid _ := (fetch_ok B0 X O U L M fm Bs E V base k us m t mk lv ks W.drew hA hk hm0 hm1 hn H1.out.hbase Y.l1 Y.l2 Y.l3 Y.l4 Y.d1 Y.d2 Y.d3 Y.d4 Y.d5 Y.b1 Y.b2 hfb (St.drewN H1 1).fix H1.out.cL H1.out.fL H1.out.cM H1.out.own)
  rw [← Hu.out] at HC
  have hFL : Fb ≠ L := fun e => by have := Y.l1; omega
  have hFM : Fb ≠ M := fun e => by have := Y.l2; omega
  have hFG : ¬ Fb = G := fun e => by have := Y.l6; omega
  have hFo : some Fb ≠ lv.ownBlock := fun e => by have := (H.out.own_lt e.symm).2; omega
  have hFR : ¬ Fb = R := fun e => by have := Y.l5; omega
  have hRF : ¬ R = Fb := fun e => hFR e.symm
  have HY : Hid (Lay B0 R G X U L M fm Bs E base a) := Y
  have hWl : Fb < W.heap.size := by omega
  clear hl hR2 hW hFb Y hsz hsW hb hh
  go_region_held3 (fun W' : World => W'.cell? ⟨R, 0, none⟩ = some (.iface 56 (.pointer (some ⟨V, 0, none⟩))) ∧ W'.cell? ⟨R, 1, none⟩ = some (clo X O U L M fm Bs)) (go_keep) ((go_at_call 7; refine Calls.mono HC.out ?_; rintro e w2 ⟨r, rfl, lv', h7⟩; have H2 : Hid _ := St.fetched HY.out hB (St.drewN H1.out 1) h7; have k0 := H2.out.hR0; have k1 := H2.out.hR1; have eF : w2.heap[Fb]? = W.heap[Fb]? := h7.kept Fb hWl hFL hFM hFo; have f0 := (cell_keep eF 0).trans hF0; have f1 := (cell_keep eF 1).trans hF1; have g0 := (frozen_keep eF 0).trans hz0; have g1 := (frozen_keep eF 1).trans hz1; have H7 : Hid _ := h7; clear h7 eF))
  obtain ⟨W3, hW3⟩ : ∃ W3, W3 = (w2.setCell ⟨Fb, 0, none⟩ (.pointer (some ⟨r, 0, none⟩))).setCell ⟨Fb, 1, none⟩ .nilIface := ⟨_, rfl⟩
  rw [← hW3]
  have hlo : some Fb ≠ lv'.ownBlock := fun e => by
    rcases H7.out.row Fb e.symm with h | h
    · exact hFo h.symm
    · exact absurd hWl (Nat.not_lt.2 h)
  have hbF : base ≤ Fb := by rw [HF.out]; exact H.out.hbase
  have H3 : Hid (St R G n D X O U L M fm Bs E V base us m t a s (mkPut mk k r) lv' (ks ++ [k]) W3) := by
    rw [hW3]; exact (H2.out.setCell HY.out hB (p := ⟨Fb, 0, none⟩) hbF hlo _).setCell HY.out hB (p := ⟨Fb, 1, none⟩) hbF hlo _
  have e0 : W3.cell? ⟨Fb, 0, none⟩ = some (.pointer (some ⟨r, 0, none⟩)) := by rw [hW3]; go_simp
  have e1 : W3.cell? ⟨Fb, 1, none⟩ = some .nilIface := by rw [hW3]; go_simp
  have HW3 : Hid (W3 = (w2.setCell ⟨Fb, 0, none⟩ (.pointer (some ⟨r, 0, none⟩))).setCell ⟨Fb, 1, none⟩ .nilIface) := hW3
  have c2 := H3.out.hR2
  obtain ⟨W4, hrun, hm4, hg4⟩ := (H3.out.map.drew).update law9 Ybaf.underlying48 (by unfold maxLen; omega) (keyOf_string_mk (P := Ybaf.prog) Ybaf.underlying9 hu) (d := .held (.agg #[.pointer (some ⟨r, 0, none⟩), .nilIface])) (val := .agg #[.pointer (some ⟨r, 0, none⟩), .nilIface]) (ps := []) rfl
  have HM4 : Hid _ := hm4
  have HG4 : Hid _ := hg4
  have s0 : W4.cell? ⟨Fb, 0, none⟩ = some (.pointer (some ⟨r, 0, none⟩)) := (hg4.cell_far ⟨Fb, 0, none⟩ (World.block_lt_of_cell? _ _ e0) (fun e => hFG (Option.some.inj e))).trans e0
  have s1 : W4.cell? ⟨Fb, 1, none⟩ = some .nilIface := (hg4.cell_far ⟨Fb, 1, none⟩ (World.block_lt_of_cell? _ _ e1) (fun e => hFG (Option.some.inj e))).trans e1
  clear hW3 f0 f1 g0 g1 k0 k1 hF0 hF1 hz0 hz1 c0 c1 HC hm4 hg4
  go_wp2
  go_region
  go_wp2
  go_quiet (fail)
  go_wp2
  go_ret2
  refine ⟨r, rfl, lv', ?_, ?_⟩
  · have hb0 : B0 ≤ w.heap.size := Nat.le_trans hB H.out.hbase
    have hb2 : B0 ≤ Fb := Nat.le_trans hB hbF
    exact left9_drewN (left9 hb0 HY.out.b3 HW.out HF.out H7.out (HW3.out ▸ ((Below.refl B0 w2).setCell (p := ⟨Fb, 0, none⟩) hb2 _).setCell (p := ⟨Fb, 1, none⟩) hb2 _) (fun j _ hj => by rw [HW3.out, Below.heap_setCell _ _ _ _ hj, Below.heap_setCell _ _ _ _ hj]) HG4.out) _
  · exact St.drewN (St.updated HY.out hB (St.drewN H3.out 1) HM4.out HG4.out) _
end Go.Proofs.YbulkdbsuFmt
