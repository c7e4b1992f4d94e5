/- Proof of FnSquaresJoined, a part: Several tables as a slice of values; an append that says where the new slice lies; a call of a Go function at a step of a region that draws its order. -/
import Derived.Deep.RegionLaw
import Derived.Test.YtoebgbojpkflnaaGreatDoorJCells
import Derived.Test.YtoebgbojpkflnaaGreatDoorJTabStep
namespace Go.Proofs.YtoebgbojpkflnaaGreatDoor
open Go Go.RowKit
theorem step_fn1 {P : Program} {ops : Array Oper} {o : Oper} {a : Act} {w : World} {K : Act → World → Prop} {Q : Exit → Act → World → Prop} {E : Prop} (hgd : o.guard = none) (f : FuncId) (fn : Func) (x : Operand) (t : TypeId)
    (ho : o.op = .call { callee := .value (.func f), args := #[x], argTypes := #[t] }) (hf : P.funcs[f]? = some fn) (hname : (fn.name == "runtime.NumGoroutine") = false) (hb : fn.body.isNone = false)
    (v : Value) (hx : a.eval x = v) {R : Ending → World → Prop} (hc : Calls P f #[v] w R) (h : ∀ e w', R e w' → ∃ u, e = .returned u ∧ K (a.put o.dst u) w') :
    if Region.wanted o (yielded ops a.tmps) = true then Oper.wp P o a w K Q else E := by
  have hw : Region.wanted o (yielded ops a.tmps) = true := by simp [Region.wanted, hgd]
  rw [if_pos hw]
  have h1 : fn.name ≠ "runtime.NumGoroutine" := by simpa using hname
  have h2 : ¬ fn.body = none := by intro h; simp [h] at hb
  have hrun : (execOp a.eval o).run P w = .ok (.enter f #[v]) w := by
    unfold execOp
    have he : a.eval (.func f) = .func (.func f) #[] #[] := rfl
    simp [ho, resolve, invoke, callFunc, hf, h1, h2, hx, Deferred.ofValue, he]
  unfold Oper.wp
  rw [hrun, Oper.upon_enter]
  refine hc.mono fun e w' hr => ?_
  obtain ⟨u, rfl, hk⟩ := h e w' hr
  exact hk
variable {B B' : Nat} {w w' : World}
/-- append of one row, and where the new slice lies. -/
theorem append_at {P : Program} {ops : Array Oper} {rest : List Oper} {o : Oper} {a : Act} {Q : Exit → Act → World → Prop} (hgd : o.guard = none) (s x : Operand) (t : TypeId)
    (ho : o.op = .call { callee := .builtin .append, args := #[s, x], argTypes := #[t, t] })
    (B : Nat) (e : TypeId) (z : Value) (sz bytes : Nat) (ht : P.underlying t = some (.slice e)) (hinf : (P.info? e).map (fun i => (i.zero, i.size, i.bytes)) = some (some z, sz, bytes))
    (hzs : z.cells.size = sz) (hsz : 0 < sz) (hby : bytes ≤ 1000)
    (v : Value) (xs : List (List Value)) (hs : a.eval s = v) (hown : Arr B w e sz v xs)
    (ad : Addr) (c : Nat) (row : List Value) (hx : a.eval x = .slice (some ad) 1 c) (hl : row.length = sz) (hnews : ∀ j u, row[j]? = some u → w.cell? (ad.add j) = some u) (h1 : ∀ u ∈ row, u.oneCell' = true)
    (hn : xs.length ≤ 4000000000) (hB : B ≤ w.heap.size)
    (h : ∀ v' w', Arr B w' e sz v' (xs ++ [row]) → w.grownBy w' v.ownBlock → (v'.ownBlock = v.ownBlock ∨ v'.ownBlock = some w.heap.size) → Below B w w' → wpList P ops Q rest (a.put o.dst v') w') : wpList P ops Q (o :: rest) a w := by
  obtain ⟨i, hi, hz0, hz1, hz2⟩ := info_parts hinf
  have hmul : (xs.length + 1) * bytes ≤ (xs.length + 1) * 1000 := Nat.mul_le_mul_left _ hby
  exact wpList_append_own_at w hgd s x t ho B e i z sz bytes ht hi hz0 hz1 hz2 hzs hsz v xs.length xs.flatten hs hown.row ad 1 c row hx (by rw [hl]; omega) hnews h1
    (by simp only [maxLen]; omega) (by omega) hB fun v' w' h2 h3 _ h4 => h v' w' (Arr.snoc h2 hown.wid hl) h3 h4 (hown.below h3 hB)
theorem held_app {R : Nat → World → Value → Prop} {v v' f : Value} {fs : List Value} (h : Held R v.ownBlock.toList w fs)
    (hf : ∃ lo hi, (∀ k, v.ownBlock = some k → k < lo ∨ hi ≤ k) ∧ On lo hi (fun w => R fs.length w f) w) (hg : w.grownBy w' v.ownBlock) (hv : v'.ownBlock = v.ownBlock ∨ v'.ownBlock = some w.heap.size) : Held R v'.ownBlock.toList w' (fs ++ [f]) := by
  have key : ∀ (S : World → Prop) lo hi, (∀ k, v.ownBlock = some k → k < lo ∨ hi ≤ k) → On lo hi S w → (∀ k ∈ v'.ownBlock.toList, k < lo ∨ hi ≤ k) ∧ On lo hi S w' := by
    intro S lo hi h1 h2
    refine ⟨fun k hk => ?_, h2.keep hg.size fun k hk1 hk2 => hg.block k (Nat.lt_of_lt_of_le hk2 h2.1) fun e => ?_⟩
    · have hk : v'.ownBlock = some k := by simpa using hk
      rcases hv with hv | hv
      · exact h1 k (by rw [← hv]; exact hk)
      · rw [hv] at hk
        injection hk with hk
        exact .inr (by have := h2.1; omega)
    · rcases h1 k e.symm with h4 | h4 <;> omega
  intro i g hgi
  by_cases hi : i < fs.length
  · rw [List.getElem?_append_left hi] at hgi
    obtain ⟨lo, hi', h1, h2⟩ := h i g hgi
    exact ⟨lo, hi', key _ lo hi' (fun k hk => h1 k (by simp [hk])) h2⟩
  · rw [List.getElem?_append_right (by omega)] at hgi
    have e1 : i - fs.length = 0 := by have := (List.getElem?_eq_some_iff.1 hgi).1; simp at this; omega
    rw [e1] at hgi
    simp at hgi
    subst hgi
    have e2 : i = fs.length := by omega
    subst e2
    obtain ⟨lo, hi', h1, h2⟩ := hf
    exact ⟨lo, hi', key _ lo hi' h1 h2⟩
theorem Held.nil {R : Nat → World → Value → Prop} {X : List Nat} : Held R X w [] := fun i f h => by simp at h
/-- The value of a table, of impl or of the package. -/
def tabRow (r : Value) : List Value := [.int .i64 5, .float .f64 0, .string ⟨#[]⟩, r]
def tabVal (r : Value) : Value := .agg #[.int .i64 5, .float .f64 0, .string ⟨#[]⟩, r]
/-- A slice of tables. -/
def TabVals (w : World) (eo e : Nat) (v : Value) (ts : List (List Atom)) : Prop :=
  ∃ rs : List Value, Arr 0 w e 4 v (rs.map tabRow) ∧ rs.length = ts.length ∧ ∀ (i : Nat) r t, rs[i]? = some r → ts[i]? = some t → Tab 0 w eo e 4 r (t.map fun a => [a.cells])
theorem TabVals.keep {eo e : Nat} {v : Value} {ts : List (List Atom)} (h : TabVals w eo e v ts) (hb : Below w.heap.size w w') : TabVals w' eo e v ts :=
  let ⟨rs, h1, h2, h3⟩ := h
  ⟨rs, h1.keep hb, h2, fun i r t hr ht => (h3 i r t hr ht).keep hb⟩
theorem TabVals.form {eo e : Nat} {v : Value} {ts : List (List Atom)} (h : TabVals w eo e v ts) (hne : ts ≠ []) : ∃ g c, v = .slice (some ⟨g, 0, none⟩) ts.length c ∧ g < w.heap.size := by
  obtain ⟨rs, h1, h2, _⟩ := h
  rcases h1.shape with ⟨_, h0⟩ | ⟨g, c, hv, _, hl, _⟩
  · have : rs = [] := List.map_eq_nil_iff.1 h0
    subst this
    exact absurd (List.length_eq_zero_iff.1 h2.symm) hne
  · exact ⟨g, c, by rw [hv, List.length_map, h2], hl⟩
/-- A column of a table's make: nil, or a place and a capacity. -/
theorem Tab.cases {eo ei sz : Nat} {v : Value} {xs : List (List (List Value))} (h : Tab B w eo ei sz v xs) : v = .slice none 0 0 ∨ ∃ g n c, v = .slice (some ⟨g, 0, none⟩) n c := by
  rcases h.shape with ⟨h, _⟩ | ⟨g, c, h, _⟩
  · exact .inl h
  · exact .inr ⟨g, _, c, h⟩
theorem tabRow_one {r : Value} (h : r = .slice none 0 0 ∨ ∃ g n c, r = .slice (some ⟨g, 0, none⟩) n c) : (tabRow r).all (fun u => u.oneCell') = true := by
  rcases h with h | ⟨g, n, c, h⟩ <;> rw [h] <;> rfl
theorem Tab.on {eo ei sz : Nat} {v : Value} {xs : List (List (List Value))} (h : Tab B w eo ei sz v xs) : On B w.heap.size (fun w2 => Tab 0 w2 eo ei sz v xs) w :=
  On.mk' fun w2 h2 => (h.above (w' := w2) fun k hk hB => h2 k hB hk).base (Nat.zero_le _)
theorem TabVals.of_held {eo e : Nat} {v : Value} {ts : List (List Atom)} {X : List Nat} {rs : List Value} (h1 : Arr B w e 4 v (rs.map tabRow)) (h2 : rs.length = ts.length)
    (h3 : Held (fun i w r => ∀ t, ts[i]? = some t → Tab 0 w eo e 4 r (t.map fun a => [a.cells])) X w rs) : TabVals w eo e v ts :=
  ⟨rs, h1.base (Nat.zero_le _), h2, fun _ _ t hr ht => (h3.get hr) t ht⟩
end Go.Proofs.YtoebgbojpkflnaaGreatDoor
