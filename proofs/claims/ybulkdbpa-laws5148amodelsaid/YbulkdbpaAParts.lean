/- b5148a: game.LawS5148AModel: the plain part: the distinct pairs in the order of their first places; what the map holds; the key [2]int. -/
import Derived.Test.YbulkdbpaRows
import Derived.WalkKit
import Derived.ProofKit
import Derived.DeepKeys4
import Derived.Maps.OwnSet
namespace Go.Proofs.Ybulkdbpa.lawS5148AModel
open Go.RowKit Go.Maps

abbrev Pair := Int × Int
abbrev i64 (n : Int) : Value := .int .i64 n

/-- One pair more. -/
def add (acc : List Pair) (p : Pair) : List Pair := if p ∈ acc then acc else acc ++ [p]
/-- The distinct pairs, in the order of their first places. -/
def dis (l : List Pair) : List Pair := l.foldl add []
theorem dis_snoc (l : List Pair) (p : Pair) : dis (l ++ [p]) = add (dis l) p := by simp [dis, List.foldl_append]
theorem dis_take_succ (l : List Pair) (k : Nat) (h : k < l.length) : dis (l.take (k + 1)) = add (dis (l.take k)) (l.getD k (0, 0)) := by
  rw [List.take_succ_eq_append_getElem h, dis_snoc]
  simp [List.getD, h]
theorem add_length (acc : List Pair) (p : Pair) : (add acc p).length ≤ acc.length + 1 := by
  unfold add; split <;> simp
theorem dis_length (l : List Pair) : ∀ k, k ≤ l.length → (dis (l.take k)).length ≤ k
  | 0, _ => by simp [dis]
  | k + 1, h => by
    rw [dis_take_succ l k (by omega)]
    have h1 := add_length (dis (l.take k)) (l.getD k (0, 0))
    have h2 := dis_length l k (by omega)
    omega

/-- The number of the pair at place k. -/
def num (l : List Pair) (k : Nat) : Nat := (dis (l.take (k + 1))).idxOf (l.getD k (0, 0))

theorem num_old (l : List Pair) (k : Nat) (h : k < l.length) (hm : l.getD k (0, 0) ∈ dis (l.take k)) : num l k = (dis (l.take k)).idxOf (l.getD k (0, 0)) := by
  unfold num
  rw [dis_take_succ l k h, add, if_pos hm]
theorem num_new (l : List Pair) (k : Nat) (h : k < l.length) (hm : l.getD k (0, 0) ∉ dis (l.take k)) : num l k = (dis (l.take k)).length := by
  unfold num
  rw [dis_take_succ l k h, add, if_neg hm, List.idxOf_append, if_neg hm]
  simp

/-! ### The key -/
theorem laidOut : laidOutB Yba.prog = true := by kernel_rfl
theorem row54 : (54 : TypeId) < Yba.prog.types.size := of_decide_eq_true (by kernel_rfl)
theorem wide54 : (match Yba.prog.underlying 54 with | some (.array _ _) | some (.struct _) => true | _ => false) = true := by rw [Yba.underlying54]
theorem law : Keyed Yba.prog 54 := Keyed.of_law (deep_law_laid laidOut (m := 2) (by omega) row54 (by kernel_rfl) wide54)
theorem cells54 : Yba.prog.cellsOf 54 = 2 := by kernel_rfl
theorem cells3 : Yba.prog.cellsOf 3 = 1 := by kernel_rfl
theorem zero3 (w : World) : (zeroValue 3).run Yba.prog w = .ok (.int .i64 0) w := by kernel_rfl
theorem keyType54 : Yba.prog.keyType 54 = true := by kernel_rfl

def wfP (p : Pair) : Prop := (Lit.int .i64 p.1).wf = true ∧ (Lit.int .i64 p.2).wf = true
def kl (p : Pair) : Lit := .string (keyBytes [.int .i64 p.1, .int .i64 p.2])

theorem keyOf_pair (p : Pair) (h : wfP p) : keyOf Yba.prog 54 (.agg #[i64 p.1, i64 p.2]) = some (kl p) := by
  obtain ⟨a, b⟩ := p
  obtain ⟨ha, hb⟩ := h
  simp only at ha hb
  have hs : (54 : Nat) < Yba.prog.types.size := row54
  unfold keyOf
  rw [Yba.underlying54]
  simp only [keyType54, Value.formed, Yba.underlying54, cells54, Bool.true_and]
  generalize Yba.prog.types.size = n at hs
  obtain ⟨m, rfl⟩ : ∃ m, n = m + 1 := ⟨n - 1, by omega⟩
  simp [Program.keyLits, Yba.underlying54, Yba.underlying3, cells54, cells3, Value.cells, ha, hb, kl, List.range_succ]

theorem kl_inj {p q : Pair} (hp : wfP p) (hq : wfP q) (h : kl p = kl q) : p = q := by
  have e := law.inj (keyOf_pair p hp) (h ▸ keyOf_pair q hq)
  simp at e
  exact Prod.ext e.1 e.2
theorem kl_key {p : Pair} (hp : wfP p) : WideAt.IsKeyLit (kl p) := law.key (keyOf_pair p hp)

/-- What the map holds when the distinct pairs so far are ds. -/
structure MapIs (D : DataW Unit) (ds : List Pair) : Prop where
  has : ∀ p, wfP p → Maps.has D (kl p) = decide (p ∈ ds)
  num : ∀ p, wfP p → p ∈ ds → D.atKey (kl p) (.lit (.int .i64 0)) = .lit (.int .i64 (ds.idxOf p))
  size : Maps.size D = ds.length

theorem mapIs_start : MapIs (.map []) [] := ⟨fun p _ => by simp [Maps.has_eq], fun p _ h => absurd h (by simp), by simp [Maps.size_eq]⟩

theorem MapIs.put {D : DataW Unit} {ds : List Pair} (h : MapIs D ds) (ht : Tidy D) {p : Pair} (hp : wfP p) (hn : p ∉ ds) : MapIs (D.put (kl p) (.lit (.int .i64 ds.length))) (ds ++ [p]) := by
  refine ⟨fun q hq => ?_, fun q hq hm => ?_, ?_⟩
  · by_cases e : q = p
    · subst e
      rw [has_put_same ht.isMap (kl_key hq)]
      simp
    · rw [has_put_other (fun e' => e (kl_inj hq hp e')), h.has q hq]
      simp [e]
  · by_cases e : q = p
    · subst e
      rw [atKey_put_same ht.isMap (kl_key hq), List.idxOf_append, if_neg hn]
      simp
    · have hm' : q ∈ ds := by simpa [e] using hm
      rw [atKey_put_other (fun e' => e (kl_inj hq hp e')), h.num q hq hm', List.idxOf_append, if_pos hm']
  · rw [size_put ht, h.has p hp, h.size]
    simp [hn]
end Go.Proofs.Ybulkdbpa.lawS5148AModel
