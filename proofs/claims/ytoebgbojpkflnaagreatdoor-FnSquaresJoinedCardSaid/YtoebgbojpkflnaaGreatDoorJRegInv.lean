/- Proof of FnSquaresJoined, a part: A region that draws its order, walked by an invariant; a call of two arguments and a store of a whole struct at its steps. -/
import Derived.Deep.RegionLaw
import Derived.Test.YtoebgbojpkflnaaGreatDoorJKit
namespace Go.Proofs.YtoebgbojpkflnaaGreatDoor
open Go Go.RowKit
section
variable {P : Program} {ops : Array Oper} {Q : Exit → Act → World → Prop} {md : Region.Mode}
theorem ready_spec {l : Array Bool} {i : Nat} (h : i ∈ Region.ready md ops l) : i < ops.size ∧ l.getD i true = false ∧ ∀ o, ops[i]? = some o → o.after.all (fun e => !Region.binds md e || l.getD e.on false) = true := by
  unfold Region.ready at h
  rw [List.mem_filter, List.mem_range, Bool.and_eq_true] at h
  obtain ⟨h1, h2, h3⟩ := h
  refine ⟨h1, by simpa using h2, fun o ho => ?_⟩
  rw [ho] at h3
  exact h3
theorem not_ready {l : Array Bool} (h : Region.ready md ops l = []) {i : Nat} {o : Oper} (ho : ops[i]? = some o) (hi : i < ops.size) (ha : o.after.all (fun e => !Region.binds md e || l.getD e.on false) = true) : l.getD i true = true := by
  cases hb : l.getD i true with
  | true => rfl
  | false =>
    have : i ∈ Region.ready md ops l := by
      unfold Region.ready
      rw [List.mem_filter, List.mem_range, Bool.and_eq_true]
      refine ⟨hi, by rw [hb]; rfl, ?_⟩
      rw [ho]
      exact ha
    rw [h] at this
    cases this
/-- How many operations are still to come. -/
def todo (l : Array Bool) : Nat := l.toList.countP (fun b => !b)
theorem todo_set {l : Array Bool} {i : Nat} (h : l.getD i true = false) : todo (l.setIfInBounds i true) + 1 = todo l := by
  unfold todo
  have hi : i < l.size := by
    rcases Nat.lt_or_ge i l.size with h1 | h1
    · exact h1
    · simp [Array.getD, Nat.not_lt.2 h1] at h
  have hv : l.toList[i]'(by simpa using hi) = false := by
    simpa [Array.getD, hi] using h
  rw [Array.toList_setIfInBounds]
  have := List.countP_set (p := fun b : Bool => !b) (l := l.toList) (i := i) (a := true) (by simpa using hi)
  rw [this, hv, if_pos (by decide), if_neg (by decide)]
  have hpos : 0 < List.countP (fun b : Bool => !b) l.toList := List.countP_pos_iff.2 ⟨false, by rw [← hv]; exact List.getElem_mem _, rfl⟩
  omega
theorem wpAny_inv {n : Nat} (J : Array Bool → Act → World → Prop)
    (hstep : ∀ (l : Array Bool) a w i, l.size = n → J l a w → i ∈ Region.ready md ops l → wpOp P ops Q i (J (l.setIfInBounds i true)) a w)
    (hend : ∀ l a w, l.size = n → J l a w → Region.ready md ops l = [] → Q .normal a w) :
    ∀ (fuel : Nat) l a w, l.size = n → J l a w → todo l ≤ fuel → wpAny P md ops Q fuel l a w := by
  intro fuel
  induction fuel with
  | zero =>
    intro l a w hl hJ ht
    have hr : Region.ready md ops l = [] := by
      cases hc : Region.ready md ops l with
      | nil => rfl
      | cons i t =>
        have := ready_spec (md := md) (ops := ops) (l := l) (i := i) (by rw [hc]; simp)
        have := todo_set this.2.1
        omega
    exact ⟨hr, hend l a w hl hJ hr⟩
  | succ fuel ih =>
    intro l a w hl hJ ht
    refine ⟨hend l a w hl hJ, fun i hi => wpOp_mono (fun a' w' hJ' => ih _ a' w' (by simpa using hl) hJ' ?_) (hstep l a w i hl hJ hi)⟩
    have := todo_set (ready_spec hi).2.1
    omega
theorem step_row {o : Oper} {a : Act} {w : World} {K : Act → World → Prop} {E : Prop} (hgd : o.guard = none) (ty : TypeId) (x y : Operand) (ho : o.op = .store ty x y)
    (g : Nat) (t : TypeId) (old cells : List Value) (hx : a.eval x = .pointer (some ⟨g, 0, none⟩)) (hy : a.eval y = .agg cells.toArray) (hg : Blk w g t old)
    (hi : (P.info? ty).map (fun i => i.size) = some cells.length) (hold : old.length = cells.length) (h1 : cells.all (fun u => u.oneCell') = true) (B : Nat) (hB : B ≤ g)
    (h : ∀ w', Blk w' g t cells → Below B w w' → PushKept' g w w' → K (a.put o.dst undef) w') : if Region.wanted o (yielded ops a.tmps) = true then Oper.wp P o a w K Q else E := by
  have hw : Region.wanted o (yielded ops a.tmps) = true := by simp [Region.wanted, hgd]
  rw [if_pos hw]
  exact wp_store_row ty x y ho g cells.toArray hx hy t old.toArray hg (by simpa using hi) (by simpa using hold) (by simpa using h1)
    (h _ (hg.setRow cells) (below_setRow hB _) ⟨by simp [World.setRow], fun k _ hk => setRow_other w g k _ hk⟩)
end
end Go.Proofs.YtoebgbojpkflnaaGreatDoor
namespace Go.Proofs.YtoebgbojpkflnaaGreatDoor
open Go Go.RowKit
abbrev On1 (l : Array Bool) (j : Nat) : Prop := l.getD j false = true
theorem gl {l : Array Bool} {i j : Nat} (h : On1 (l.setIfInBounds i true) j) (hne : j ≠ i) : On1 l j := by
  unfold On1 at *
  rw [Array.getD_eq_getD_getElem?, Array.getElem?_setIfInBounds_ne (by omega)] at h
  rw [Array.getD_eq_getD_getElem?]; exact h
theorem off1 {l : Array Bool} {i : Nat} (h : l.getD i true = false) : ¬ On1 l i := by
  unfold On1
  rw [Array.getD_eq_getD_getElem?] at h ⊢
  cases hc : l[i]? with
  | none => rw [hc] at h; cases h
  | some b => rw [hc] at h; simp at h; rw [h]; simp
theorem dep_of {md : Region.Mode} {l : Array Bool} {o : Oper} (h : o.after.all (fun e => !Region.binds md e || l.getD e.on false) = true) (k : Nat) {e} (he : o.after[k]? = some e) (hb : Region.binds md e = true) : l.getD e.on false = true := by
  rw [Array.all_eq_true'] at h
  have := h e (Array.mem_of_getElem? he)
  rw [hb] at this
  simpa using this
theorem up {l : Array Bool} {i j : Nat} (h : On1 l j) : On1 (l.setIfInBounds i true) j := by
  unfold On1 at *
  rw [Array.getD_eq_getD_getElem?] at h ⊢
  by_cases hij : j = i
  · subst hij
    rw [Array.getElem?_setIfInBounds_self]
    split
    · rfl
    · rename_i hb; rw [Array.getElem?_eq_none (by omega)] at h; exact h
  · rw [Array.getElem?_setIfInBounds_ne (by omega)]; exact h
theorem on_alln {l : Array Bool} {n : Nat} (hl : l.size = n) {i : Nat} (hi : i < n) (h : l.getD i true = true) : On1 l i := by
  unfold On1
  rw [Array.getD_eq_getD_getElem?] at h ⊢
  rw [Array.getElem?_eq_getElem (by omega)] at h ⊢
  exact h
/-- A variable that the region has made: its block, and what has been stored. -/
def Bk (ty n : Nat) (w0 w : World) (st : Prop) (x y : Value) : Prop := ∃ g old, x = .pointer (some ⟨g, 0, none⟩) ∧ w0.heap.size ≤ g ∧ g < w.heap.size ∧ old.length = n ∧ Blk w g ty old ∧ (st → y = .agg old.toArray)
theorem Bk.keep {ty n : Nat} {w0 w w' : World} {st st' : Prop} {x y : Value} (h : Bk ty n w0 w st x y) (hb : Below w.heap.size w w') (hst : st' → st) : Bk ty n w0 w' st' x y :=
  let ⟨g, old, h1, h2, h3, h4, h5, h6⟩ := h
  ⟨g, old, h1, h2, Nat.lt_of_lt_of_le h3 hb.size, h4, h5.below hb h3, fun hs => h6 (hst hs)⟩
theorem Bk.far {ty n : Nat} {w0 w w' : World} {st st' : Prop} {x y : Value} {b : Nat} (h : Bk ty n w0 w st x y) (hk : PushKept' b w w') (hne : x ≠ .pointer (some ⟨b, 0, none⟩)) (hst : st' → st) : Bk ty n w0 w' st' x y :=
  let ⟨g, old, h1, h2, h3, h4, h5, h6⟩ := h
  ⟨g, old, h1, h2, Nat.lt_of_lt_of_le h3 hk.size, h4, hk.blk h5 (fun e => hne (by rw [h1, e])), fun hs => h6 (hst hs)⟩
theorem Bk.ne {ty n : Nat} {w0 w : World} {st : Prop} {x y : Value} {b : Nat} (h : Bk ty n w0 w st x y) (hb : w.heap.size ≤ b) : x ≠ .pointer (some ⟨b, 0, none⟩) := by
  obtain ⟨g, old, h1, h2, h3, _⟩ := h
  rw [h1]
  intro e
  injection e with e
  injection e with e
  injection e with e
  omega
theorem Bk.fin {ty n : Nat} {w0 w : World} {x y : Value} {l : List Value} (h : Bk ty n w0 w True x y) (hy : y = .agg l.toArray) : ∃ g, x = .pointer (some ⟨g, 0, none⟩) ∧ Blk w g ty l ∧ w0.heap.size ≤ g := by
  obtain ⟨g, old, h1, h2, h3, h4, h5, h6⟩ := h
  refine ⟨g, h1, ?_, h2⟩
  have := h6 trivial
  rw [hy] at this
  injection this with this
  have e : old = l := by
    have := congrArg Array.toList this
    simpa using this.symm
  rw [← e]; exact h5
end Go.Proofs.YtoebgbojpkflnaaGreatDoor
