/- Proof of FnSquaresJoined, a part: A column that a call within a drawn region has made: its blocks lie apart from two variables of the region. -/
import Derived.Test.YtoebgbojpkflnaaGreatDoorJSums
import Derived.Test.YtoebgbojpkflnaaGreatDoorJTabs
import Derived.Test.YtoebgbojpkflnaaGreatDoorJRegInv
namespace Go.Proofs.YtoebgbojpkflnaaGreatDoor
open Go Go.RowKit
def vRow (v : Value) : List Value := [.int .i64 5, .int .i64 0, .int .i64 0, .string ⟨#[]⟩, v]
/-- The column ss, made from the block lo on and below hi; a variable that stands, stands apart. -/
def Col (ss : List Int) (w : World) (x : Value) (p1 : Prop) (s1 : Value) (p2 : Prop) (s2 : Value) : Prop :=
  ∃ v lo hi, x = .agg (vRow v).toArray ∧ hi ≤ w.heap.size ∧ (∀ w' : World, (∀ k, lo ≤ k → k < hi → w'.heap[k]? = w.heap[k]?) → Tab 0 w' 31 27 5 v (ss.map fun n => [iCells n])) ∧
    (p1 → ∀ g, s1 = .pointer (some ⟨g, 0, none⟩) → g < lo ∨ hi ≤ g) ∧ (p2 → ∀ g, s2 = .pointer (some ⟨g, 0, none⟩) → g < lo ∨ hi ≤ g)
theorem Col.of {ss : List Int} {w w' : World} {v : Value} {p1 p2 : Prop} {s1 s2 : Value} (ht : Tab w.heap.size w' 31 27 5 v (ss.map fun n => [iCells n]))
    (h1 : p1 → ∀ g, s1 = .pointer (some ⟨g, 0, none⟩) → g < w.heap.size) (h2 : p2 → ∀ g, s2 = .pointer (some ⟨g, 0, none⟩) → g < w.heap.size) : Col ss w' (.agg #[.int .i64 5, .int .i64 0, .int .i64 0, .string ⟨#[]⟩, v]) p1 s1 p2 s2 :=
  ⟨v, w.heap.size, w'.heap.size, rfl, Nat.le_refl _, fun w2 h => (ht.above (w' := w2) fun k hk hB => h k hB hk).base (Nat.zero_le _), fun h g e => .inl (h1 h g e), fun h g e => .inl (h2 h g e)⟩
theorem Col.step {ss : List Int} {w w' : World} {x : Value} {p1 p2 p1' p2' : Prop} {s1 s2 s1' s2' : Value} (h : Col ss w x p1 s1 p2 s2) (hb : Below w.heap.size w w')
    (h1 : p1' → (p1 ∧ s1' = s1) ∨ ∃ g, s1' = .pointer (some ⟨g, 0, none⟩) ∧ w.heap.size ≤ g) (h2 : p2' → (p2 ∧ s2' = s2) ∨ ∃ g, s2' = .pointer (some ⟨g, 0, none⟩) ∧ w.heap.size ≤ g) : Col ss w' x p1' s1' p2' s2' := by
  obtain ⟨v, lo, hi, e, hh, ht, q1, q2⟩ := h
  refine ⟨v, lo, hi, e, Nat.le_trans hh hb.size, fun w2 h => ht w2 fun k hl hk => (h k hl hk).trans (hb.block k (Nat.lt_of_lt_of_le hk hh)), fun h g eg => ?_, fun h g eg => ?_⟩
  · rcases h1 h with ⟨hp, es⟩ | ⟨g', es, hg'⟩
    · exact q1 hp g (es ▸ eg)
    · rw [es] at eg; injection eg with eg; injection eg with eg; injection eg with eg; omega
  · rcases h2 h with ⟨hp, es⟩ | ⟨g', es, hg'⟩
    · exact q2 hp g (es ▸ eg)
    · rw [es] at eg; injection eg with eg; injection eg with eg; injection eg with eg; omega
theorem Col.far1 {ss : List Int} {w w' : World} {x : Value} {p1 p2 p1' p2' : Prop} {s2 : Value} {b : Nat} (h : Col ss w x p1 (.pointer (some ⟨b, 0, none⟩)) p2 s2) (hp : p1) (hk : PushKept' b w w') (h1 : p1' → p1) (h2 : p2' → p2) :
    Col ss w' x p1' (.pointer (some ⟨b, 0, none⟩)) p2' s2 := by
  obtain ⟨v, lo, hi, e, hh, ht, q1, q2⟩ := h
  have hq := q1 hp b rfl
  exact ⟨v, lo, hi, e, Nat.le_trans hh hk.size, fun w2 h => ht w2 fun k hl hlt => (h k hl hlt).trans (hk.kept k (Nat.lt_of_lt_of_le hlt hh) (by omega)), fun h => q1 (h1 h), fun h => q2 (h2 h)⟩
theorem Col.far2 {ss : List Int} {w w' : World} {x : Value} {p1 p2 p1' p2' : Prop} {s1 : Value} {b : Nat} (h : Col ss w x p1 s1 p2 (.pointer (some ⟨b, 0, none⟩))) (hp : p2) (hk : PushKept' b w w') (h1 : p1' → p1) (h2 : p2' → p2) :
    Col ss w' x p1' s1 p2' (.pointer (some ⟨b, 0, none⟩)) := by
  obtain ⟨v, lo, hi, e, hh, ht, q1, q2⟩ := h
  have hq := q2 hp b rfl
  exact ⟨v, lo, hi, e, Nat.le_trans hh hk.size, fun w2 h => ht w2 fun k hl hlt => (h k hl hlt).trans (hk.kept k (Nat.lt_of_lt_of_le hlt hh) (by omega)), fun h => q1 (h1 h), fun h => q2 (h2 h)⟩
theorem Col.tab {ss : List Int} {w : World} {x : Value} {p1 p2 : Prop} {s1 s2 : Value} (h : Col ss w x p1 s1 p2 s2) : ∃ v, x = .agg #[.int .i64 5, .int .i64 0, .int .i64 0, .string ⟨#[]⟩, v] ∧ Tab 0 w 31 27 5 v (ss.map fun n => [iCells n]) := by
  obtain ⟨v, lo, hi, e, hh, ht, q1, q2⟩ := h
  exact ⟨v, e, ht w fun _ _ _ => rfl⟩
theorem Col.row {ss : List Int} {w : World} {x : Value} {p1 p2 : Prop} {s1 s2 : Value} (h : Col ss w x p1 s1 p2 s2) : ∃ v, x = .agg (vRow v).toArray ∧ (vRow v).all (fun u => u.oneCell') = true := by
  obtain ⟨v, e, ht⟩ := h.tab
  refine ⟨v, e, ?_⟩
  rcases ht.cases with h | ⟨g, n, c, h⟩ <;> rw [h] <;> rfl
theorem Bk.lt {ty n : Nat} {w0 w : World} {st : Prop} {x y : Value} (h : Bk ty n w0 w st x y) : ∀ g, x = .pointer (some ⟨g, 0, none⟩) → g < w.heap.size := by
  obtain ⟨g', old, h1, h2, h3, _⟩ := h
  intro g e
  rw [h1] at e; injection e with e; injection e with e; injection e with e; omega
end Go.Proofs.YtoebgbojpkflnaaGreatDoor
