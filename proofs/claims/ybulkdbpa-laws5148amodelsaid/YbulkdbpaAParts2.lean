/- b5148a: game.LawS5148AModel: what the walk leans on. -/
import Derived.Test.YbulkdbpaGroups
import Derived.Deep.QuietTactic
import Derived.BigQuiet
import Derived.WalkSmall
import Derived.Deep.RegionHeld3
import Derived.Deep.DrawnRows
namespace Go.Proofs.Ybulkdbpa.lawS5148AModel
open Go.RowKit Go.Maps

theorem info28 : (Yba.prog.info? 28).map (fun i => (i.zero, i.size, i.bytes)) = some (some (.agg #[.string ByteArray.empty, .int .i64 0, .int .i64 0]), 3, 32) := by kernel_rfl

theorem groups_at (gb pb n : Nat) (ids : Nat → ByteArray) (ps : List Pair) (w : World) (H c : Nat) (hH : w.heap.size = H) (hcn : (dis ps).length = c) (hps : ps.length = n) (hn : n ≤ 1024) (hwf : ∀ i, i < n → wfP (ps.getD i (0, 0))) (hg : w.cell? ⟨gb, 2, none⟩ = some (.slice (some ⟨pb, 0, none⟩) n n)) (hpb : 0 < n → pb < w.heap.size)
    (hc : ∀ i, i < n → PlayerAt w pb i (ids i) (ps.getD i (0, 0))) :
    Calls Yba.prog 6 #[.pointer (some ⟨gb, 0, none⟩)] w fun e w' => e = .returned (.tuple #[.slice (some ⟨H, 0, none⟩) n n, .int .i64 (c : Nat)]) ∧
      (∀ i, i < n → w'.cell? ⟨H, i, none⟩ = some (i64 (num ps i : Nat))) ∧ H < w'.heap.size ∧ Below H w w' := by
  subst hH hcn
  exact groups_any gb pb n ids ps w hps hn hwf hg hpb hc

/-- The places of the first players of the distinct pairs so far. -/
structure Firsts (ps : List Pair) (j : Nat) (fs : List Nat) : Prop where
  dis : fs.map (fun x => ps.getD x (0, 0)) = dis (ps.take j)
  lt : ∀ x ∈ fs, x < ps.length

theorem Firsts.get {ps : List Pair} {j : Nat} {fs : List Nat} (h : Firsts ps j fs) {t : Nat} (ht : t < fs.length) : (lawS5148AModel.dis (ps.take j)).getD t (0, 0) = ps.getD (fs.getD t 0) (0, 0) ∧ fs.getD t 0 < ps.length := by
  refine ⟨?_, h.lt _ (by simp [List.getD, ht])⟩
  rw [← h.dis]
  simp [List.getD, ht]
theorem Firsts.length {ps : List Pair} {j : Nat} {fs : List Nat} (h : Firsts ps j fs) : (lawS5148AModel.dis (ps.take j)).length = fs.length := by
  rw [← h.dis, List.length_map]

/-- The search met the pair at place t, and at none before. -/
theorem Firsts.found {ps : List Pair} {j : Nat} {fs : List Nat} (h : Firsts ps j fs) (hj : j < ps.length) {t : Nat} (ht : t < fs.length) (hb : ∀ s, s < t → (lawS5148AModel.dis (ps.take j)).getD s (0, 0) ≠ ps.getD j (0, 0)) (he : ps.getD (fs.getD t 0) (0, 0) = ps.getD j (0, 0)) :
    num ps j = t ∧ Firsts ps (j + 1) fs := by
  have hl := h.length
  have ht' : t < (lawS5148AModel.dis (ps.take j)).length := by omega
  have hat : (lawS5148AModel.dis (ps.take j))[t] = ps.getD j (0, 0) := by
    have h1 := (h.get ht).1
    rw [he] at h1
    rw [← h1]
    simp [List.getD, ht']
  have hm : ps.getD j (0, 0) ∈ lawS5148AModel.dis (ps.take j) := hat ▸ List.getElem_mem ht'
  refine ⟨?_, ⟨by rw [dis_take_succ ps j hj, add, if_pos hm]; exact h.dis, h.lt⟩⟩
  rw [num_old ps j hj hm]
  have hlt := List.idxOf_lt_length_of_mem hm
  have hself : (lawS5148AModel.dis (ps.take j))[(lawS5148AModel.dis (ps.take j)).idxOf (ps.getD j (0, 0))] = ps.getD j (0, 0) := List.getElem_idxOf hlt
  have hge : t ≤ (lawS5148AModel.dis (ps.take j)).idxOf (ps.getD j (0, 0)) := by
    apply Nat.le_of_not_lt
    intro hcon
    refine hb _ hcon ?_
    rw [List.getD, List.getElem?_eq_getElem hlt]
    exact hself
  have hle : (lawS5148AModel.dis (ps.take j)).idxOf (ps.getD j (0, 0)) ≤ t := by
    apply Nat.le_of_not_lt
    intro hcon
    have hno := List.not_of_lt_findIdx hcon
    rw [hat] at hno
    simp at hno
  omega

/-- The search met the pair nowhere. -/
theorem Firsts.new {ps : List Pair} {j : Nat} {fs : List Nat} (h : Firsts ps j fs) (hj : j < ps.length) (hb : ∀ s, s < fs.length → (lawS5148AModel.dis (ps.take j)).getD s (0, 0) ≠ ps.getD j (0, 0)) :
    num ps j = fs.length ∧ Firsts ps (j + 1) (fs ++ [j]) := by
  have hl := h.length
  have hm : ps.getD j (0, 0) ∉ lawS5148AModel.dis (ps.take j) := by
    intro hmem
    obtain ⟨s, hs, he⟩ := List.mem_iff_getElem.1 hmem
    refine hb s (by omega) ?_
    rw [← he]
    simp [List.getD, hs]
  refine ⟨by rw [num_new ps j hj hm, hl], ⟨?_, ?_⟩⟩
  · rw [dis_take_succ ps j hj, add, if_neg hm, List.map_append, h.dis]
    rfl
  · intro x hx
    rcases List.mem_append.1 hx with hx | hx
    · exact h.lt x hx
    · simp at hx; omega

theorem firsts_start (ps : List Pair) : Firsts ps 0 [] := ⟨by simp [lawS5148AModel.dis], fun x h => absurd h (by simp)⟩

/-- The pair at place i of the slice that came in. -/
def PairAt (w : World) (b off i : Nat) (p : Pair) : Prop :=
  w.cell? ⟨b, off + i * 2, none⟩ = some (i64 p.1) ∧ w.cell? ⟨b, off + i * 2 + 1, none⟩ = some (i64 p.2)

theorem PlayerAt.below {w w' : World} {pb i B : Nat} {id : ByteArray} {p : Pair} (h : PlayerAt w pb i id p) (hb : Below B w w') (hB : pb < B) : PlayerAt w' pb i id p :=
  ⟨(hb.cell (p := ⟨pb, i * 3, none⟩) hB).trans h.1, (hb.cell (p := ⟨pb, i * 3 + 1, none⟩) hB).trans h.2.1, (hb.cell (p := ⟨pb, i * 3 + 2, none⟩) hB).trans h.2.2⟩
theorem PlayerAt.alloc {w : World} {pb i : Nat} {id : ByteArray} {p : Pair} (h : PlayerAt w pb i id p) (hB : pb < w.heap.size) (o : Obj) : PlayerAt (w.alloc o) pb i id p :=
  h.below ((Below.refl w.heap.size w).alloc (Nat.le_refl _) o) hB
theorem PairAt.below {w w' : World} {b off i B : Nat} {p : Pair} (h : PairAt w b off i p) (hb : Below B w w') (hB : b < B) : PairAt w' b off i p :=
  ⟨(hb.cell (p := ⟨b, off + i * 2, none⟩) hB).trans h.1, (hb.cell (p := ⟨b, off + i * 2 + 1, none⟩) hB).trans h.2⟩

/-- The row of players as it is filled: the first k are laid, all 3 n cells are there and can be written. -/
structure Rowk (w : World) (pb n k : Nat) (ids : Nat → ByteArray) (ps : List Pair) : Prop where
  at' : ∀ i, i < k → PlayerAt w pb i (ids i) (ps.getD i (0, 0))
  there : ∀ j, j < n * 3 → (∃ v, w.cell? ⟨pb, j, none⟩ = some v) ∧ w.frozen? ⟨pb, j, none⟩ = false

/-- One player more. -/
theorem Rowk.step {w : World} {pb n k : Nat} {ids : Nat → ByteArray} {ps : List Pair} (h : Rowk w pb n k ids ps) (hk : k < n) {id : ByteArray} {p : Pair} (hid : id = ids k) (hp : p = ps.getD k (0, 0)) :
    Rowk (((w.setCell ⟨pb, k * 3, none⟩ (.string id)).setCell ⟨pb, k * 3 + 1, none⟩ (.int .i64 p.1)).setCell ⟨pb, k * 3 + 2, none⟩ (.int .i64 p.2)).drew pb n (k + 1) ids ps := by
  show Rowk (w.setCells pb (k * 3) [.string id, i64 p.1, i64 p.2]).drew pb n (k + 1) ids ps
  have hin := World.cell?_setCells_in pb [.string id, i64 p.1, i64 p.2] (k * 3) w (fun j hj => by
    obtain ⟨v, hv⟩ := (h.there (k * 3 + j) (by simp at hj; omega)).1
    rw [hv]; rfl)
  have hout : ∀ j, j < k * 3 ∨ k * 3 + 3 ≤ j → (w.setCells pb (k * 3) [.string id, i64 p.1, i64 p.2]).cell? ⟨pb, j, none⟩ = w.cell? ⟨pb, j, none⟩ := fun j hj =>
    World.cell?_setCells_out pb _ (k * 3) w ⟨pb, j, none⟩ (fun _ _ => by simpa using hj)
  refine ⟨fun i hi => ?_, fun j hj => ⟨?_, ?_⟩⟩
  · by_cases e : i = k
    · subst e
      subst hid hp
      exact ⟨hin 0 (by simp), hin 1 (by simp), hin 2 (by simp)⟩
    · obtain ⟨h1, h2, h3⟩ := h.at' i (by omega)
      exact ⟨(hout _ (by omega)).trans h1, (hout _ (by omega)).trans h2, (hout _ (by omega)).trans h3⟩
  · by_cases e : j < k * 3 ∨ k * 3 + 3 ≤ j
    · obtain ⟨v, hv⟩ := (h.there j hj).1
      exact ⟨v, (hout j e).trans hv⟩
    · obtain ⟨d, rfl⟩ : ∃ d, j = k * 3 + d := ⟨j - k * 3, by omega⟩
      exact ⟨_, hin d (by simp; omega)⟩
  · exact (World.frozen?_setCells pb _ (k * 3) w ⟨pb, j, none⟩).trans (h.there j hj).2

end Go.Proofs.Ybulkdbpa.lawS5148AModel
