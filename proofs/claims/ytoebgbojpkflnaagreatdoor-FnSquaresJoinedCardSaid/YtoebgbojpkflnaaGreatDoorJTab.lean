/- Proof of FnSquaresJoined, a part: A table: a slice of rows, each a slice of structs of its own; what an append of a row does to it. -/
import Derived.Maps.AppendAt
import Derived.Test.YtoebgbojpkflnaaGreatDoorJArr
namespace Go.Proofs.YtoebgbojpkflnaaGreatDoor
open Go Go.RowKit
/-- The slice v, in blocks from B on, holds rows: each a slice of xs' cells, in a block that is not v's. -/
def Tab (B : Nat) (w : World) (eo ei sz : Nat) (v : Value) (xs : List (List (List Value))) : Prop :=
  ∃ rs : List Value, Arr B w eo 1 v (rs.map fun r => [r]) ∧ rs.length = xs.length ∧ ∀ (i : Nat) r x, rs[i]? = some r → xs[i]? = some x → Arr B w ei sz r x ∧ ∀ k, v.ownBlock = some k → r.ownBlock ≠ some k
variable {B B' : Nat} {w w' : World} {eo ei sz : Nat} {v : Value} {xs : List (List (List Value))}
theorem Tab.nil : Tab B w eo ei sz (.slice none 0 0) [] := ⟨[], Arr.nil _ _ _ _, rfl, by simp⟩
theorem Tab.keep (h : Tab B w eo ei sz v xs) (hb : Below w.heap.size w w') : Tab B w' eo ei sz v xs :=
  let ⟨rs, h1, h2, h3⟩ := h
  ⟨rs, h1.keep hb, h2, fun i r x hr hx => ⟨(h3 i r x hr hx).1.keep hb, (h3 i r x hr hx).2⟩⟩
theorem Tab.base (h : Tab B w eo ei sz v xs) (hB : B' ≤ B) : Tab B' w eo ei sz v xs :=
  let ⟨rs, h1, h2, h3⟩ := h
  ⟨rs, h1.base hB, h2, fun i r x hr hx => ⟨(h3 i r x hr hx).1.base hB, (h3 i r x hr hx).2⟩⟩
theorem Tab.shape (h : Tab B w eo ei sz v xs) : (v = .slice none 0 0 ∧ xs = []) ∨ ∃ g c, v = .slice (some ⟨g, 0, none⟩) xs.length c ∧ g < w.heap.size := by
  obtain ⟨rs, h1, h2, _⟩ := h
  rcases h1.shape with ⟨a, b⟩ | ⟨g, c, a, _, b, _⟩
  · have : rs = [] := List.map_eq_nil_iff.1 b
    subst this
    exact .inl ⟨a, List.length_eq_zero_iff.1 h2.symm⟩
  · exact .inr ⟨g, c, by rw [a, List.length_map, h2], b⟩
theorem Arr.grown {x : List (List Value)} {r : Value} {row : Option Nat} (h : Arr B w ei sz r x) (hg : w.grownBy w' row) (hne : ∀ k, r.ownBlock = some k → row ≠ some k) : Arr B w' ei sz r x := by
  refine ⟨?_, h.wid⟩
  obtain ⟨h1, h2⟩ := h.row
  refine ⟨h1, ?_⟩
  rcases h2 with h2 | ⟨g, cap, cur, hv, hB, hh, r'⟩
  · exact .inl h2
  · refine .inr ⟨g, cap, cur, hv, hB, ?_, r'⟩
    rw [hg.block g (lt_of_block hh) (fun e => hne g (by rw [hv]; rfl) e.symm)]
    exact hh
theorem Tab.snoc {rs : List Value} {v' r : Value} {x : List (List Value)} (h3 : ∀ (i : Nat) r x, rs[i]? = some r → xs[i]? = some x → Arr B w ei sz r x ∧ ∀ k, v.ownBlock = some k → r.ownBlock ≠ some k) (h2 : rs.length = xs.length)
    (h1 : Arr B w' eo 1 v' ((rs ++ [r]).map fun r => [r])) (hg : w.grownBy w' v.ownBlock) (hv : v'.ownBlock = v.ownBlock ∨ v'.ownBlock = some w.heap.size) (hr : Arr B w ei sz r x) (hne : ∀ k, v.ownBlock = some k → r.ownBlock ≠ some k) : Tab B w' eo ei sz v' (xs ++ [x]) := by
  have key : ∀ q y, Arr B w ei sz q y → (∀ k, v.ownBlock = some k → q.ownBlock ≠ some k) → Arr B w' ei sz q y ∧ ∀ k, v'.ownBlock = some k → q.ownBlock ≠ some k := by
    intro q y ha hn
    refine ⟨ha.grown hg fun k hk e => hn k e hk, fun k hk e => ?_⟩
    rcases hv with hv | hv
    · exact hn k (by rw [← hv]; exact hk) e
    · rw [hv] at hk
      injection hk with hk
      have := (ha.row.lt k e).2
      omega
  refine ⟨rs ++ [r], h1, by simp [h2], fun i q y hq hy => ?_⟩
  by_cases hi : i < rs.length
  · rw [List.getElem?_append_left hi] at hq
    rw [List.getElem?_append_left (by omega)] at hy
    exact key q y (h3 i q y hq hy).1 (h3 i q y hq hy).2
  · rw [List.getElem?_append_right (by omega)] at hq hy
    have e1 : i - rs.length = 0 := by have := (List.getElem?_eq_some_iff.1 hq).1; simp at this; omega
    rw [e1] at hq
    rw [← h2, e1] at hy
    simp at hq hy
    subst hq hy
    exact key r x hr hne
theorem Arr.above {x : List (List Value)} {r : Value} (h : Arr B w ei sz r x) (hk : ∀ k, k < w.heap.size → B ≤ k → w'.heap[k]? = w.heap[k]?) : Arr B w' ei sz r x := by
  refine ⟨?_, h.wid⟩
  obtain ⟨h1, h2⟩ := h.row
  refine ⟨h1, ?_⟩
  rcases h2 with h2 | ⟨g, cap, cur, hv, hB, hh, r'⟩
  · exact .inl h2
  · exact .inr ⟨g, cap, cur, hv, hB, (hk g (lt_of_block hh) hB).trans hh, r'⟩
/-- A table outlives a write below its blocks. -/
theorem Tab.above (h : Tab B w eo ei sz v xs) (hk : ∀ k, k < w.heap.size → B ≤ k → w'.heap[k]? = w.heap[k]?) : Tab B w' eo ei sz v xs :=
  let ⟨rs, h1, h2, h3⟩ := h
  ⟨rs, h1.above hk, h2, fun i r x hr hx => ⟨(h3 i r x hr hx).1.above hk, (h3 i r x hr hx).2⟩⟩
/-- append of one row to a table, as an operation of a walk. -/
theorem append_tab {P : Program} {ops : Array Oper} {rest : List Oper} {o : Oper} {a : Act} {Q : Exit → Act → World → Prop} (hgd : o.guard = none) (s x : Operand) (t : TypeId)
    (ho : o.op = .call { callee := .builtin .append, args := #[s, x], argTypes := #[t, t] })
    (B : Nat) (eo ei sz : Nat) (z : Value) (bytes : Nat) (ht : P.underlying t = some (.slice eo)) (hinf : (P.info? eo).map (fun i => (i.zero, i.size, i.bytes)) = some (some z, 1, bytes))
    (hzs : z.cells.size = 1) (hby : bytes ≤ 1000)
    (v : Value) (xs : List (List (List Value))) (hs : a.eval s = v) (htab : Tab B w eo ei sz v xs)
    (ad : Addr) (c : Nat) (r : Value) (y : List (List Value)) (hx : a.eval x = .slice (some ad) 1 c) (hnews : w.cell? (ad.add 0) = some r) (h1 : r.oneCell' = true)
    (hr : Arr B w ei sz r y) (hne : ∀ k, v.ownBlock = some k → r.ownBlock ≠ some k) (hn : xs.length ≤ 4000000000) (hB : B ≤ w.heap.size)
    (h : ∀ v' w', Tab B w' eo ei sz v' (xs ++ [y]) → Below B w w' → wpList P ops Q rest (a.put o.dst v') w') : wpList P ops Q (o :: rest) a w := by
  obtain ⟨rs, t1, t2, t3⟩ := htab
  obtain ⟨i, hi, hz0, hz1, hz2⟩ := info_parts hinf
  have hl : (rs.map fun r => [r]).length = xs.length := by rw [List.length_map, t2]
  have hmul : ((rs.map fun r => [r]).length + 1) * bytes ≤ ((rs.map fun r => [r]).length + 1) * 1000 := Nat.mul_le_mul_left _ hby
  refine wpList_append_own_at w hgd s x t ho B eo i z 1 bytes ht hi hz0 hz1 hz2 hzs (by omega) v (rs.map fun r => [r]).length (rs.map fun r => [r]).flatten hs t1.row ad 1 c [r] hx rfl ?_ (by simpa using h1)
    (by simp only [maxLen]; omega) (by omega) hB fun v' w' h2 h3 _ h4 => h v' w' (Tab.snoc t3 t2 ?_ h3 h4 hr hne) (t1.below h3 hB)
  · intro j u hu
    match j, hu with
    | 0, hu => simp at hu; subst hu; exact hnews
    | j + 1, hu => simp at hu
  · rw [List.map_append]
    exact Arr.snoc (x := [r]) h2 t1.wid rfl
end Go.Proofs.YtoebgbojpkflnaaGreatDoor
