/- Proof of FnSquaresJoined, a part: A slice of structs that the call itself has made, read as a list of rows of cells; what an append does to it. -/
import Derived.Test.YtoebgbojpkflnaaGreatDoorJKit
namespace Go.Proofs.YtoebgbojpkflnaaGreatDoor
open Go Go.RowKit
/-- The slice v, in blocks from B on, holds the rows xs, each of sz cells. -/
structure Arr (B : Nat) (w : World) (e sz : Nat) (v : Value) (xs : List (List Value)) : Prop where
  row : w.ownsRow B e sz v xs.length xs.flatten
  wid : ∀ x ∈ xs, x.length = sz
theorem Arr.nil (B : Nat) (w : World) (e sz : Nat) : Arr B w e sz (.slice none 0 0) [] := ⟨World.ownsRow_nil w B e sz, by simp⟩
theorem Arr.keep {B : Nat} {w w' : World} {e sz : Nat} {v : Value} {xs : List (List Value)} (h : Arr B w e sz v xs) (hb : Below w.heap.size w w') : Arr B w' e sz v xs :=
  ⟨ownsRow_below h.row hb, h.wid⟩
theorem ownsRow_base {w : World} {B B' : Nat} {e sz : Nat} {v : Value} {n : Nat} {xs : List Value} (h : w.ownsRow B e sz v n xs) (hB : B' ≤ B) : w.ownsRow B' e sz v n xs := by
  obtain ⟨h1, h2⟩ := h
  refine ⟨h1, ?_⟩
  rcases h2 with h2 | ⟨g, cap, cur, hv, hg, r⟩
  · exact .inl h2
  · exact .inr ⟨g, cap, cur, hv, Nat.le_trans hB hg, r⟩
theorem Arr.base {B B' : Nat} {w : World} {e sz : Nat} {v : Value} {xs : List (List Value)} (h : Arr B w e sz v xs) (hB : B' ≤ B) : Arr B' w e sz v xs :=
  ⟨ownsRow_base h.row hB, h.wid⟩
/-- The slice's make: nil and empty, or a place and a capacity. -/
theorem Arr.shape {B : Nat} {w : World} {e sz : Nat} {v : Value} {xs : List (List Value)} (h : Arr B w e sz v xs) :
    (v = .slice none 0 0 ∧ xs = []) ∨ ∃ g c, v = .slice (some ⟨g, 0, none⟩) xs.length c ∧ B ≤ g ∧ g < w.heap.size ∧ xs.length ≤ c ∧ c ≤ maxLen := by
  rcases h.row.2 with ⟨h1, h2⟩ | ⟨g, cap, cur, hv, hg, hh, hn, hm, _⟩
  · exact .inl ⟨h1, List.length_eq_zero_iff.1 h2⟩
  · exact .inr ⟨g, cap, hv, hg, lt_of_block hh, hn, hm⟩
theorem flatten_get : ∀ (xs : List (List Value)) (sz : Nat), (∀ x ∈ xs, x.length = sz) → ∀ (i j : Nat) (x : List Value), xs[i]? = some x → j < sz → xs.flatten[i * sz + j]? = x[j]?
  | [], _, _, _, _, _, h, _ => by simp at h
  | y :: ys, sz, hw, 0, j, x, h, hj => by
    simp at h; subst h
    have : y.length = sz := hw y (by simp)
    rw [List.flatten_cons, List.getElem?_append_left (by omega)]
    simp
  | y :: ys, sz, hw, i + 1, j, x, h, hj => by
    have hy : y.length = sz := hw y (by simp)
    have ih := flatten_get ys sz (fun z hz => hw z (by simp [hz])) i j x (by simpa using h) hj
    rw [List.flatten_cons, List.getElem?_append_right (by rw [hy, Nat.succ_mul]; omega), hy]
    rw [show (i + 1) * sz + j - sz = i * sz + j by rw [Nat.succ_mul]; omega]
    exact ih
/-- Cell j of row i. -/
theorem Arr.cell {B : Nat} {w : World} {e sz : Nat} {xs : List (List Value)} {g n c : Nat} (h : Arr B w e sz (.slice (some ⟨g, 0, none⟩) n c) xs) {i j : Nat} {x : List Value} {u : Value} (hx : xs[i]? = some x) (hu : x[j]? = some u) :
    w.cell? ⟨g, i * sz + j, none⟩ = some u := by
  have hj : j < sz := by rw [← h.wid x (List.mem_of_getElem? hx)]; exact (List.getElem?_eq_some_iff.1 hu).1
  have := h.row.cells (g := g) rfl (i * sz + j) u (by rw [flatten_get xs sz h.wid i j x hx hj]; exact hu)
  have hadd : (⟨g, 0, none⟩ : Addr).add (i * sz + j) = ⟨g, i * sz + j, none⟩ := by unfold Addr.add; split <;> simp_all
  rwa [hadd] at this
theorem Arr.cell0 {B : Nat} {w : World} {e sz : Nat} {xs : List (List Value)} {g n c : Nat} (h : Arr B w e sz (.slice (some ⟨g, 0, none⟩) n c) xs) {i : Nat} {x : List Value} {u : Value} (hx : xs[i]? = some x) (hu : x[0]? = some u) :
    w.cell? ⟨g, i * sz, none⟩ = some u := h.cell hx hu
/-- Behind an append of one row. -/
theorem Arr.snoc {B : Nat} {w : World} {e sz : Nat} {v : Value} {xs : List (List Value)} {x : List Value} (h : w.ownsRow B e sz v (xs.length + 1) (xs.flatten ++ x)) (hw : ∀ y ∈ xs, y.length = sz) (hx : x.length = sz) : Arr B w e sz v (xs ++ [x]) :=
  ⟨by simpa using h, fun y hy => by
    rcases List.mem_append.1 hy with h' | h'
    · exact hw y h'
    · simp at h'; subst h'; exact hx⟩
/-- Behind an append of another slice. -/
theorem Arr.app {B : Nat} {w : World} {e sz : Nat} {v : Value} {xs ys : List (List Value)} (h : w.ownsRow B e sz v (xs.length + ys.length) (xs.flatten ++ ys.flatten)) (hw : ∀ y ∈ xs, y.length = sz) (hx : ∀ y ∈ ys, y.length = sz) : Arr B w e sz v (xs ++ ys) :=
  ⟨by simpa using h, fun y hy => by
    rcases List.mem_append.1 hy with h' | h'
    · exact hw y h'
    · exact hx y h'⟩
theorem Arr.below {B : Nat} {w w' : World} {e sz : Nat} {v : Value} {xs : List (List Value)} (h : Arr B w e sz v xs) (hg : w.grownBy w' v.ownBlock) (hB : B ≤ w.heap.size) : Below B w w' :=
  (Below.refl B w).grown hg hB fun k hk => (h.row.lt k hk).1
/-- append of one row, as an operation of a walk. -/
theorem append_one {P : Program} {w : World} {ops : Array Oper} {rest : List Oper} {o : Oper} {a : Act} {Q : Exit → Act → World → Prop} (hgd : o.guard = none) (s x : Operand) (t : TypeId)
    (ho : o.op = .call { callee := .builtin .append, args := #[s, x], argTypes := #[t, t] })
    (B : Nat) (e : TypeId) (z : Value) (sz bytes : Nat) (ht : P.underlying t = some (.slice e)) (hinf : (P.info? e).map (fun i => (i.zero, i.size, i.bytes)) = some (some z, sz, bytes))
    (hzs : z.cells.size = sz) (hsz : 0 < sz) (hby : bytes ≤ 1000)
    (v : Value) (xs : List (List Value)) (hs : a.eval s = v) (hown : Arr B w e sz v xs)
    (ad : Addr) (c : Nat) (row : List Value) (hx : a.eval x = .slice (some ad) 1 c) (hl : row.length = sz) (hnews : ∀ j u, row[j]? = some u → w.cell? (ad.add j) = some u) (h1 : ∀ u ∈ row, u.oneCell' = true)
    (hn : xs.length ≤ 4000000000) (hB : B ≤ w.heap.size)
    (h : ∀ v' w', Arr B w' e sz v' (xs ++ [row]) → Below B w w' → wpList P ops Q rest (a.put o.dst v') w') : wpList P ops Q (o :: rest) a w := by
  obtain ⟨i, hi, hz0, hz1, hz2⟩ := info_parts hinf
  have hmul : (xs.length + 1) * bytes ≤ (xs.length + 1) * 1000 := Nat.mul_le_mul_left _ hby
  exact wpList_append_own w hgd s x t ho B e i z sz bytes ht hi hz0 hz1 hz2 hzs hsz v xs.length xs.flatten hs hown.row ad 1 c row hx (by rw [hl]; omega) hnews h1
    (by simp only [maxLen]; omega) (by omega) hB fun v' w' h2 h3 _ => h v' w' (Arr.snoc h2 hown.wid hl) (hown.below h3 hB)
/-- append of another slice of the call's own. -/
theorem append_two {P : Program} {w : World} {ops : Array Oper} {rest : List Oper} {o : Oper} {a : Act} {Q : Exit → Act → World → Prop} (hgd : o.guard = none) (s x : Operand) (t : TypeId)
    (ho : o.op = .call { callee := .builtin .append, args := #[s, x], argTypes := #[t, t] })
    (B : Nat) (e : TypeId) (z : Value) (sz bytes : Nat) (ht : P.underlying t = some (.slice e)) (hinf : (P.info? e).map (fun i => (i.zero, i.size, i.bytes)) = some (some z, sz, bytes))
    (hzs : z.cells.size = sz) (hsz : 0 < sz) (hby : bytes ≤ 1000)
    (v : Value) (xs : List (List Value)) (hs : a.eval s = v) (hown : Arr B w e sz v xs)
    (v2 : Value) (B2 : Nat) (ys : List (List Value)) (hx : a.eval x = v2) (hy : Arr B2 w e sz v2 ys) (hne : ys ≠ []) (h1 : ∀ y ∈ ys, ∀ u ∈ y, u.oneCell' = true)
    (hn : xs.length + ys.length ≤ 4000000000) (hB : B ≤ w.heap.size)
    (h : ∀ v' w', Arr B w' e sz v' (xs ++ ys) → Below B w w' → wpList P ops Q rest (a.put o.dst v') w') : wpList P ops Q (o :: rest) a w := by
  obtain ⟨i, hi, hz0, hz1, hz2⟩ := info_parts hinf
  rcases hy.shape with ⟨_, h0⟩ | ⟨g, c, rfl, _, _, _, _⟩
  · exact absurd h0 hne
  have hmul : (xs.length + ys.length) * bytes ≤ (xs.length + ys.length) * 1000 := Nat.mul_le_mul_left _ hby
  exact wpList_append_own w hgd s x t ho B e i z sz bytes ht hi hz0 hz1 hz2 hzs hsz v xs.length xs.flatten hs hown.row ⟨g, 0, none⟩ ys.length c ys.flatten hx hy.row.1 (hy.row.cells rfl)
    (fun u hu => by obtain ⟨y, hy1, hy2⟩ := List.mem_flatten.1 hu; exact h1 y hy1 u hy2)
    (by simp only [maxLen]; omega) (by omega) hB fun v' w' h2 h3 _ => h v' w' (Arr.app h2 hown.wid hy.wid) (hown.below h3 hB)
theorem Arr.alloc {B : Nat} {w : World} {e sz : Nat} {v : Value} {xs : List (List Value)} (h : Arr B w e sz v xs) (o : Obj) : Arr B (w.alloc o) e sz v xs :=
  h.keep ((Below.refl _ _).alloc (Nat.le_refl _) o)
/-- The cells of a block that has just been made. -/
theorem news_cells (W : World) (E : TypeId) (row : List Value) (b : Nat) (hb : b = W.heap.size) : ∀ j u, row[j]? = some u → (W.alloc (.cells row.toArray E)).cell? ((⟨b, 0, none⟩ : Addr).add j) = some u := by
  intro j u hu
  subst hb
  have hadd : (⟨W.heap.size, 0, none⟩ : Addr).add j = ⟨W.heap.size, j, none⟩ := by unfold Addr.add; split <;> simp_all
  rw [hadd]
  exact (Blk.new W E row).get j hu
theorem quad_one (k : Int) (b : Nat) (s : ByteArray) (p : Option Addr) (n c : Nat) : ∀ u ∈ [Value.int .i64 k, .float .f64 b, .string s, .slice p n c], u.oneCell' = true := by
  intro u hu; simp at hu; rcases hu with rfl | rfl | rfl | rfl <;> rfl
theorem le_alloc1 {B : Nat} {w : World} (h : B ≤ w.heap.size) (o : Obj) : B ≤ (w.alloc o).heap.size := by simp; omega
theorem le_alloc2 {B : Nat} {w : World} (h : B ≤ w.heap.size) (o o' : Obj) : B ≤ ((w.alloc o).alloc o').heap.size := le_alloc1 (le_alloc1 h _) _
theorem le_alloc3 {B : Nat} {w : World} (h : B ≤ w.heap.size) (o o' o'' : Obj) : B ≤ (((w.alloc o).alloc o').alloc o'').heap.size := le_alloc1 (le_alloc2 h _ _) _
end Go.Proofs.YtoebgbojpkflnaaGreatDoor
