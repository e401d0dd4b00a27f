/- b5155aF: rcd.LawS5155AOnce (function 3): the walk. -/
import Derived.Test.YbulkdbsuFmtSetUp
import Derived.Test.YbulkdbsuFmtErr
import Derived.LaidEqlPtr
namespace Go.Proofs.YbulkdbsuFmt
open Go.RowKit Go.Maps Go.WideMaps Go.Extern.Stop Go.Stop Go.Extern

theorem law_long (ai : Option Addr) (n cap : Nat) (m : Int) (w : World) (hn : 1024 < n) :
    Calls Ybaf.prog 3 #[.slice ai n cap, .int .u8 m] w fun e w' => e = .returned (.bool true) ∧ Below w.heap.size w w' := by
  have d0 : decide ((1024 : Int) < (n : Int)) = true := decide_eq_true (by omega)
  go_enter Ybaf.func3, Ybaf.ntmps3
  go_wp2
  go_ret
  exact ⟨rfl, (Below.refl _ _).alloc (Nat.le_refl _) _⟩

theorem info30 : (Ybaf.prog.info? 38).map (fun i => i.size) = some 2 := by kernel_rfl
/-- A pointer is not other than itself. -/
theorem neq30 (w : World) (a : Addr) : (binOp .neq 30 (.pointer (some a)) (.pointer (some a))).run Ybaf.prog w = .ok (.bool false) w := by
  obtain ⟨j, hj, _⟩ := Option.map_eq_some_iff.1 info30
  have h : ∀ d : Nat, (Op.equalIn (d + 1) 30 (.pointer (some a)) (.pointer (some a))).run Ybaf.prog w = .ok true w := fun d => by
    simp [Op.equalIn, run_underlying Ybaf.underlying30, sizeOf, typeInfo, hj, run_sameAddr_same]
  simp only [binOp]
  simp [Op.equal, Op.maxDepth, h 9999]

theorem row_form {w : World} {bs : Nat} {v : Value} {ks : List Nat} (h : w.ownsRow bs 3 1 v ks.length (ks.map fun x => Value.int .i64 (x : Nat))) : ∃ p cap, v = .slice p ks.length cap ∧ (0 < ks.length → ∃ g, p = some ⟨g, 0, none⟩ ∧ ∀ j, j < ks.length → w.cell? ⟨g, j, none⟩ = some (.int .i64 (ks.getD j 0 : Nat))) := by
  rcases h.2 with ⟨hv, hn⟩ | ⟨g, cap, cur, hv, _, hg, hc, _, hsz, htk⟩
  · exact ⟨none, 0, by rw [hv, hn], fun h0 => by omega⟩
  · refine ⟨some ⟨g, 0, none⟩, cap, hv, fun _ => ⟨g, rfl, fun j hj => ?_⟩⟩
    have h1 : cur.toList[j]? = some (.int .i64 (ks.getD j 0 : Nat)) := by
      have h2 : (cur.toList.take (ks.length * 1))[j]? = (ks.map fun x => Value.int .i64 (x : Nat))[j]? := by rw [htk]
      rw [List.getElem?_take_of_lt (by omega)] at h2
      rw [h2, List.getElem?_map, List.getElem?_eq_getElem hj]
      simp [List.getD, List.getElem?_eq_getElem hj]
    simp [World.cell?, hg]
    simpa using h1

set_option maxHeartbeats 1000000 in
set_option maxRecDepth 100000 in
theorem law_short (F : Interp) (ai : Option Addr) (n cap : Nat) (m : Int) (a : Addr) (s : ByteArray) (w : World) (hn : n ≤ 1024) (hm0 : 0 ≤ m) (hm1 : m ≤ 255) (hF : F.answers w.tape) (h0 : w.cell? ⟨0, 0, none⟩ = some (.iface 62 (.pointer (some a)))) (hs : w.cell? a = some (.string s))
    (hp : 0 < n → ∃ b o, ai = some ⟨b, o, none⟩ ∧ b < w.heap.size ∧ ∀ i, i < n → ∃ z : Nat, z ≤ 255 ∧ w.cell? ⟨b, o + i, none⟩ = some (.int .u8 (z : Int))) :
    Calls Ybaf.prog 3 #[.slice ai n cap, .int .u8 m] w fun e w' => e = .returned (.bool true) ∧ Below w.heap.size w w' := by
  have d0 : decide ((1024 : Int) < (n : Int)) = false := decide_eq_false (by omega)
  have h8 := typeOf29
  have h32 := comparable29
  have mR := isMethodComparable
  have hmm := @run_makeMap Ybaf.prog
  have Hp : Hid _ := hp
  have Hg : Hid _ := h0
  have Hs : Hid _ := hs
  clear hp h0 hs
  go_enter Ybaf.func3, Ybaf.ntmps3
  go_wp2
  obtain ⟨fm, e0⟩ : ∃ x, x = w.heap.size := ⟨_, rfl⟩
  obtain ⟨U, e1⟩ : ∃ x, x = fm + 1 := ⟨_, rfl⟩
  obtain ⟨V, e2⟩ : ∃ x, x = U + 1 := ⟨_, rfl⟩
  obtain ⟨X, e3⟩ : ∃ x, x = V + 1 := ⟨_, rfl⟩
  obtain ⟨M, e4⟩ : ∃ x, x = X + 1 := ⟨_, rfl⟩
  obtain ⟨L, e5⟩ : ∃ x, x = M + 1 := ⟨_, rfl⟩
  obtain ⟨O, e6⟩ : ∃ x, x = L + 1 := ⟨_, rfl⟩
  obtain ⟨E, e7⟩ : ∃ x, x = O + 1 := ⟨_, rfl⟩
  obtain ⟨Bs, e8⟩ : ∃ x, x = E + 1 := ⟨_, rfl⟩
  obtain ⟨G, e9⟩ : ∃ x, x = Bs + 1 := ⟨_, rfl⟩
  obtain ⟨R, e10⟩ : ∃ x, x = G + 1 := ⟨_, rfl⟩
  obtain ⟨base, e11⟩ : ∃ x, x = R + 1 := ⟨_, rfl⟩
  have I0 := setUp_inv (m := m) e0 e1 e2 e3 e4 e5 e6 e7 e8 e9 e10 e11 Hg.out Hs.out
  have Y : Lay fm R G X U L M fm Bs E base a := by
    have z0 : 0 < w.heap.size := World.block_lt_of_cell? _ _ Hg.out
    have za : a.block < w.heap.size := World.block_lt_of_cell? _ _ Hs.out
    constructor <;> omega
  simp only [← e0, ← e1, ← e2, ← e3, ← e4, ← e5, ← e6, ← e7, ← e8, ← e9, ← e10, ← e11, Array.getD_eq_getD_getElem?, List.getElem?_toArray, List.getElem?_cons_succ, List.getElem?_cons_zero, Option.getD_some]
  show Code.wp _ _ _ _ (setUp w m fm U V X M L O E Bs G)
  have HI0 : Hid _ := I0
  clear I0
  have HY : Hid _ := Y
  have z1 : fm ≤ base := by omega
  have z2 : O < base := by omega
  have z3 : ¬ O = L := by omega
  have z4 : ¬ O = M := by omega
  have z5 : ¬ O = G := by omega
  have HN : Hid (fm = w.heap.size) := e0
  clear Y e0 e1 e2 e3 e4 e5 e6 e7 e8 e9 e10 e11 d0 h8 h32 mR hmm Hg Hs
  generalize setUp w m fm U V X M L O E Bs G = W0 at HI0 ⊢
  go_loopw [14, 15] (fun wu iv wr => ∃ (i : Nat) (ks : List Nat) (D : DataW Value) (mk : Nat → Option Addr) (lv wv : Value), i ≤ n ∧ iv = .int .i64 i ∧ wu = wv ∧ Inv fm R G X O U L M fm Bs E V base names m ⟨#[100, 111, 119, 110]⟩ a s w wv ks D mk lv wr) (fun _ iv _ => n - (intOf iv).toNat)
  case atStart => exact ⟨0, [], _, _, _, _, Nat.zero_le _, rfl, rfl, HI0.out⟩
  case round =>
    obtain ⟨i, ks, D, mk, lv, wv, hi, rfl, rfl, I⟩ := hrel
    have HI : Hid _ := I
    clear I HI0
    by_cases hlt : i < n
    · obtain ⟨b, o, rfl, hb, hz⟩ := Hp.out (by omega)
      obtain ⟨z, hz1, hc⟩ := hz i hlt
      have hc' : wr.cell? ⟨b, o + i, none⟩ = some (.int .u8 (z : Int)) := (HI.out.below.cell (p := ⟨b, o + i, none⟩) (by rw [HN.out]; exact hb)).trans hc
      have Hz : Hid _ := hz
      have q1 : decide ((i : Int) < (n : Int)) = true := decide_eq_true (by omega)
      have q2 : (0 : Int) ≤ (i : Int) := by omega
      have q3 : (i : Int) < (n : Int) := by omega
      clear hz hc
      obtain ⟨k, hk⟩ : ∃ k : Nat, z % 4 = k := ⟨_, rfl⟩
      have hk' : (z : Int) % 4 = (k : Int) := by omega
      have hk4 : k < 4 := by omega
      have k0 : (0 : Int) ≤ (k : Int) := by omega
      have k1 : (k : Int) < 4 := by omega
      have cu := HI.out.st.fix.cU k hk4
      have cs := (HI.out.seen k hk4).1
      have cz := (HI.out.seen k hk4).2
      obtain ⟨u, hu⟩ : ∃ u, u = names k := ⟨_, rfl⟩
      have Hu : Hid (u = names k) := hu
      rw [← hu] at cu
      clear hu
      have n30 := neq30
      by_cases hmem : k ∈ ks
      · rw [decide_eq_true hmem] at cs
        have hh : Maps.has D (kl names k) = true := by rw [HI.out.has k hk4, decide_eq_true hmem]
        by_cases hfb : fbit m k = true
        · obtain ⟨r, q, hr, hx, hq1, hq2, _, _⟩ := (HI.out.got k hmem).bad hfb
          have Hx : Hid _ := hx
          have Hh : Hid _ := hh
          have Hr : Hid _ := hr
          have Hq : Hid _ := hq2
          have Hc : ∀ w2, Hid (Below wr.heap.size wr w2) → Hid (Inv fm R G X O U L M fm Bs E V base names m ⟨#[100, 111, 119, 110]⟩ a s w u14 ks D mk lv w2) := fun w2 h2 => Inv.hit HY.out z1 z2 HI.out h2
          clear hx hh hr hq2
          unfold fbit at hfb
          go_wp2_with (first
            | (go_at_call 9; refine Calls.mono (get_hit_err R G ks.length D u r ⟨q, 0, none⟩ _ (by rw [Hu.out]; exact names_small k) HI.out.st.hR2 HI.out.st.map (by rw [Hu.out]; exact Hh) (by rw [Hu.out]; exact Hx)) ?_; rintro e w2 ⟨rfl, hb2⟩; have I2 := Hc w2 hb2; have c1 : w2.cell? ⟨M, k, none⟩ = some (.pointer (some r)) := (by have := (I2.out.st.cM k hk4).1; rw [Hr.out] at this; exact this); have c2 := I2.out.st.fix.cfm; have c3 := I2.out.st.g0; have c4 : w2.cell? ⟨q, 0 + 1, none⟩ = some (.iface 62 (.pointer (some a))) := (cell_keep (hb2.block q (World.block_lt_of_cell? _ _ Hq.out)) 1).trans Hq.out; have Hb2 : Hid _ := hb2; clear hb2)
            | (go_at_call 10; refine Calls.mono (is_wrap_same q 0 a _ c4) ?_; rintro e w3 ⟨rfl, rfl⟩))
          go_roundw
          case rel => exact ⟨i + 1, ks, D, mk, lv, u14, by omega, by go_num, rfl, I2.out⟩
          case measure => simp [intOf]; omega
        · have hfb : fbit m k = false := by simpa using hfb
          obtain ⟨r, hr, hx⟩ := (HI.out.got k hmem).ok hfb
          have Hx : Hid _ := hx
          have Hh : Hid _ := hh
          have Hr : Hid _ := hr
          have Hc : ∀ w2, Hid (Below wr.heap.size wr w2) → Hid (Inv fm R G X O U L M fm Bs E V base names m ⟨#[100, 111, 119, 110]⟩ a s w u14 ks D mk lv w2) := fun w2 h2 => Inv.hit HY.out z1 z2 HI.out h2
          clear hx hh hr
          unfold fbit at hfb
          go_wp2_with (go_at_call 9; refine Calls.mono (get_hit_nil R G ks.length D u r _ (by rw [Hu.out]; exact names_small k) HI.out.st.hR2 HI.out.st.map (by rw [Hu.out]; exact Hh) (by rw [Hu.out]; exact Hx)) ?_; rintro e w2 ⟨rfl, hb2⟩; have I2 := Hc w2 hb2; have c1 : w2.cell? ⟨M, k, none⟩ = some (.pointer (some r)) := by { have := (I2.out.st.cM k hk4).1; rw [Hr.out] at this; exact this }; have c2 := I2.out.st.fix.cfm; have Hb2 : Hid _ := hb2; clear hb2)
          go_roundw
          case rel => exact ⟨i + 1, ks, D, mk, lv, u14, by omega, by go_num, rfl, I2.out⟩
          case measure => simp [intOf]; omega
      · have hmn : decide (k ∈ ks) = false := decide_eq_false hmem
        rw [hmn] at cs
        have hh : Maps.has D (kl names k) = false := by rw [HI.out.has k hk4, hmn]
        have hlen := HI.out.len
        have hZ : base < wr.heap.size := World.block_lt_of_cell? _ _ cs
        have hwown : wr.ownsRow (base + 1) 3 1 u14 ks.length (ks.map fun x => Value.int .i64 (x : Nat)) := HI.out.own
        obtain ⟨i3, hi3, hy0, hy1, hy2⟩ := info_parts info3
        have Hcs : Hid _ := cs
        have HO : Hid _ := hwown
        have HmT : ∀ {g cap : Nat} {o : Obj} {W3 : World}, W3.ownsRow (base + 1) 3 1 (.slice (some ⟨g, 0, none⟩) (ks.length + 1) cap) (ks.length + 1) ((ks.map fun x => Value.int .i64 (x : Nat)) ++ [.int .i64 (k : Nat)]) → ((wr.setCell ⟨base, k, none⟩ (.bool true)).alloc o).grownBy W3 (Value.ownBlock u14) → (Value.ownBlock u14 = some g ∨ g = ((wr.setCell ⟨base, k, none⟩ (.bool true)).alloc o).heap.size) → Mid fm base u14 ks k wr (.slice (some ⟨g, 0, none⟩) (ks.length + 1) cap) W3 := fun h1 h2 h3 => mid z1 hZ ⟨_, Hcs.out⟩ HO.out h1 h2 h3
        have hSown : ∀ o : Obj, ((wr.setCell ⟨base, k, none⟩ (.bool true)).alloc o).ownsRow (base + 1) 3 1 u14 ks.length (ks.map fun x => Value.int .i64 (x : Nat)) := fun o => (ownsRow_setCell_below HO.out (a := ⟨base, k, none⟩) (Nat.lt_succ_self _) _).alloc o
        have Hone : Hid (∀ (j : Nat) (u : Value), [Value.int .i64 (k : Nat)][j]? = some u → ((wr.setCell ⟨base, k, none⟩ (.bool true)).alloc (.cells #[.int .i64 (k : Nat)] 3)).cell? (Addr.add ⟨wr.heap.size, 0, none⟩ j) = some u) := by
          have h1 := cell_one_new (wr.setCell ⟨base, k, none⟩ (.bool true)) (.int .i64 (k : Nat)) 3
          have e : (wr.setCell ⟨base, k, none⟩ (.bool true)).heap.size = wr.heap.size := by simp [World.setCell]
          rw [e] at h1
          exact h1
        have Hh : Hid _ := hh
        have Hm : Hid _ := hmem
        clear hh hmem hwown hmn
        by_cases hfb : fbit m k = true
        · have Hfb : Hid _ := hfb
          unfold fbit at hfb
          go_wp2_with (first
            | (at_builtin; (refine wpList_append_lies _ rfl _ _ 32 rfl (base + 1) 3 i3 (.int .i64 0) 1 8 Ybaf.underlying32 hi3 hy0 hy1 hy2 rfl (by decide) u14 ks.length _ rfl (hSown _) ⟨_, 0, none⟩ 1 1 [.int .i64 (k : Nat)] rfl rfl Hone.out (ints_oneCell .i64 [(k : Int)]) (by decide) (by unfold maxLen; omega) (by omega) (by simp [World.setCell]; omega) _ rfl ?_; intro g cap w1 hown1 hgrow1 hat1 hlt1; have Hmid : Hid _ := HmT hown1 hgrow1 hat1; have S1 : Hid _ := Inv.mid HY.out z1 HI.out Hmid.out; have cu1 := S1.out.fix.cU k hk4; rw [← Hu.out] at cu1; have hF1 : F.answers w1.tape := (by have e : w1.tape = w.tape := Hmid.out.below.tape.trans HI.out.below.tape; rw [e]; exact hF); clear hown1 hgrow1 hat1 hlt1))
            | (go_at_call 9; (refine Calls.mono (Hu.out ▸ get_fail F hF1 HY.out z1 S1.out names_apart hk4 hm0 hm1 hlen hfb (names_small k) hlen Hh.out) ?_; rintro e w2 ⟨r, q, rfl, lv', h9, ⟨hq1, hq2, hq3, hq4⟩, hst⟩; rw [Hu.out] at hst; have I2 : Hid _ := Inv.miss HY.out z2 z3 z4 z5 names_keys HI.out hk4 Hm.out Hmid.out h9 hst (fun e => absurd (Hfb.out.symm.trans e) (by decide)) (fun _ => ⟨q, rfl, hq1, hq2, hq4⟩); have c1 : w2.cell? ⟨M, k, none⟩ = some (.pointer (some ⟨r, 0, none⟩)) := (by have := (I2.out.st.cM k hk4).1; simpa [mkPut] using this); have c2 := I2.out.st.fix.cfm; have c3 := I2.out.st.g0; have c4 : w2.cell? ⟨q, 0 + 1, none⟩ = some (.iface 62 (.pointer (some a))) := hq1; clear h9 hst hq1 hq2 hq3 hq4))
            | (go_at_call 10; refine Calls.mono (is_wrap_same q 0 a _ c4) ?_; rintro e w3 ⟨rfl, rfl⟩))
          go_roundw
          case rel => exact ⟨i + 1, _, _, _, _, _, by omega, by go_num, rfl, I2.out⟩
          case measure => simp [intOf]; omega
        · have hfb : fbit m k = false := by simpa using hfb
          have Hfb : Hid _ := hfb
          unfold fbit at hfb
          go_wp2_with (first
            | (at_builtin; (refine wpList_append_lies _ rfl _ _ 32 rfl (base + 1) 3 i3 (.int .i64 0) 1 8 Ybaf.underlying32 hi3 hy0 hy1 hy2 rfl (by decide) u14 ks.length _ rfl (hSown _) ⟨_, 0, none⟩ 1 1 [.int .i64 (k : Nat)] rfl rfl Hone.out (ints_oneCell .i64 [(k : Int)]) (by decide) (by unfold maxLen; omega) (by omega) (by simp [World.setCell]; omega) _ rfl ?_; intro g cap w1 hown1 hgrow1 hat1 hlt1; have Hmid : Hid _ := HmT hown1 hgrow1 hat1; have S1 : Hid _ := Inv.mid HY.out z1 HI.out Hmid.out; have cu1 := S1.out.fix.cU k hk4; rw [← Hu.out] at cu1; clear hown1 hgrow1 hat1 hlt1))
            | (go_at_call 9; (refine Calls.mono (Hu.out ▸ get_ok HY.out z1 S1.out names_apart hk4 hm0 hm1 hlen hfb (names_small k) hlen Hh.out) ?_; rintro e w2 ⟨r, rfl, lv', h9, hst⟩; rw [Hu.out] at hst; have I2 : Hid _ := Inv.miss HY.out z2 z3 z4 z5 names_keys HI.out hk4 Hm.out Hmid.out h9 hst (fun _ => rfl) (fun e => absurd (Hfb.out.symm.trans e) (by decide)); have c1 : w2.cell? ⟨M, k, none⟩ = some (.pointer (some ⟨r, 0, none⟩)) := (by have := (I2.out.st.cM k hk4).1; simpa [mkPut] using this); have c2 := I2.out.st.fix.cfm; clear h9 hst)))
          go_roundw
          case rel => exact ⟨i + 1, _, _, _, _, _, by omega, by go_num, rfl, I2.out⟩
          case measure => simp [intOf]; omega
    · obtain rfl : i = n := by omega
      have cO := HI.out.cO
      have cL := HI.out.st.cL
      have cR := HI.out.st.hR2
      have hml := fun ty => HI.out.st.map.len Ybaf.underlying48 ty
      rw [HI.out.size] at hml
      have q1 : decide ((i : Int) < (i : Int)) = false := decide_eq_false (by omega)
      obtain ⟨p1, cap1, rfl, hp1⟩ := row_form HI.out.st.own
      obtain ⟨p2, cap2, rfl, hp2⟩ := row_form HI.out.own
      have Hp1 : Hid _ := hp1
      have Hp2 : Hid _ := hp2
      clear hp1 hp2 Hp
      go_wp2
      have HB := HI.out.below
      have Hle := HI.out.len
      rw [HN.out] at HB
      clear hml
      go_loopw [19] (fun jv wq => ∃ j : Nat, j ≤ ks.length ∧ jv = .int .i64 j ∧ ∃ q, wq = wr.drewN q) (fun jv _ => ks.length - (intOf jv).toNat)
      case atStart => exact ⟨0, Nat.zero_le _, rfl, 0, rfl⟩
      case round =>
        obtain ⟨j, hj, rfl, q, rfl⟩ := hrel
        by_cases hlt2 : j < ks.length
        · obtain ⟨g1, rfl, hg1⟩ := Hp1.out (by omega)
          obtain ⟨g2, rfl, hg2⟩ := Hp2.out (by omega)
          have x1 := hg1 j hlt2
          have x2 := hg2 j hlt2
          have y1 : decide ((j : Int) < (ks.length : Int)) = true := decide_eq_true (by omega)
          have y2 : (0 : Int) ≤ (j : Int) := by omega
          have y3 : (j : Int) < (ks.length : Int) := by omega
          have Hg1 : Hid _ := hg1
          have Hg2 : Hid _ := hg2
          clear hg1 hg2
          go_wp2
          go_quiet (fail)
          go_wp2
          go_roundw
          case rel => exact ⟨j + 1, by omega, by go_num, _, rfl⟩
          case measure => simp [intOf]; omega
        · obtain rfl : j = ks.length := by omega
          have y1 : decide ((ks.length : Int) < (ks.length : Int)) = false := decide_eq_false (by omega)
          go_wp2
          go_ret
          exact ⟨rfl, below_drewN HB _⟩
end Go.Proofs.YbulkdbsuFmt
