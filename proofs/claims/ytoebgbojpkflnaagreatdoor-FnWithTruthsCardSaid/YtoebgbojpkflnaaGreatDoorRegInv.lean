/- A region that draws its order, walked by an invariant; a call of two arguments and a store of a whole struct at its steps. -/
import Derived.Test.YtoebgbojpkflnaaGreatDoorKit
import Derived.Deep.RegionLaw
namespace Go.Proofs.YtoebgbojpkflnaaGreatDoor
open Go Go.RowKit
section
variable {P : Program} {ops : Array Oper} {Q : Exit → Act → World → Prop} {md : Region.Mode}
theorem ready_spec {l : Array Bool} {i : Nat} (h : i ∈ Region.ready md ops l) : i < ops.size ∧ l.getD i true = false ∧ ∀ o, ops[i]? = some o → o.after.all (fun e => !Region.binds md e || l.getD e.on false) = true := by
  unfold Region.ready at h
  rw [List.mem_filter, List.mem_range, Bool.and_eq_true] at h
  obtain ⟨h1, h2, h3⟩ := h
  refine ⟨h1, by simpa using h2, fun o ho => ?_⟩
  rw [ho] at h3
  exact h3
theorem not_ready {l : Array Bool} (h : Region.ready md ops l = []) {i : Nat} {o : Oper} (ho : ops[i]? = some o) (hi : i < ops.size) (ha : o.after.all (fun e => !Region.binds md e || l.getD e.on false) = true) : l.getD i true = true := by
  cases hb : l.getD i true with
  | true => rfl
  | false =>
    have : i ∈ Region.ready md ops l := by
      unfold Region.ready
      rw [List.mem_filter, List.mem_range, Bool.and_eq_true]
      refine ⟨hi, by rw [hb]; rfl, ?_⟩
      rw [ho]
      exact ha
    rw [h] at this
    cases this
/-- How many operations are still to come. -/
def todo (l : Array Bool) : Nat := l.toList.countP (fun b => !b)
theorem todo_set {l : Array Bool} {i : Nat} (h : l.getD i true = false) : todo (l.setIfInBounds i true) + 1 = todo l := by
  unfold todo
  have hi : i < l.size := by
    rcases Nat.lt_or_ge i l.size with h1 | h1
    · exact h1
    · simp [Array.getD, Nat.not_lt.2 h1] at h
  have hv : l.toList[i]'(by simpa using hi) = false := by
    simpa [Array.getD, hi] using h
  rw [Array.toList_setIfInBounds]
  have := List.countP_set (p := fun b : Bool => !b) (l := l.toList) (i := i) (a := true) (by simpa using hi)
  rw [this, hv, if_pos (by decide), if_neg (by decide)]
  have hpos : 0 < List.countP (fun b : Bool => !b) l.toList := List.countP_pos_iff.2 ⟨false, by rw [← hv]; exact List.getElem_mem _, rfl⟩
  omega
theorem wpAny_inv {n : Nat} (J : Array Bool → Act → World → Prop)
    (hstep : ∀ (l : Array Bool) a w i, l.size = n → J l a w → i ∈ Region.ready md ops l → wpOp P ops Q i (J (l.setIfInBounds i true)) a w)
    (hend : ∀ l a w, l.size = n → J l a w → Region.ready md ops l = [] → Q .normal a w) :
    ∀ (fuel : Nat) l a w, l.size = n → J l a w → todo l ≤ fuel → wpAny P md ops Q fuel l a w := by
  intro fuel
  induction fuel with
  | zero =>
    intro l a w hl hJ ht
    have hr : Region.ready md ops l = [] := by
      cases hc : Region.ready md ops l with
      | nil => rfl
      | cons i t =>
        have := ready_spec (md := md) (ops := ops) (l := l) (i := i) (by rw [hc]; simp)
        have := todo_set this.2.1
        omega
    exact ⟨hr, hend l a w hl hJ hr⟩
  | succ fuel ih =>
    intro l a w hl hJ ht
    refine ⟨hend l a w hl hJ, fun i hi => wpOp_mono (fun a' w' hJ' => ih _ a' w' (by simpa using hl) hJ' ?_) (hstep l a w i hl hJ hi)⟩
    have := todo_set (ready_spec hi).2.1
    omega
theorem step_fn2 {o : Oper} {a : Act} {w : World} {K : Act → World → Prop} {E : Prop} (hgd : o.guard = none) (f : FuncId) (fn : Func) (x y : Operand) (t1 t2 : TypeId)
    (ho : o.op = .call { callee := .value (.func f), args := #[x, y], argTypes := #[t1, t2] }) (hf : P.funcs[f]? = some fn) (hname : (fn.name == "runtime.NumGoroutine") = false) (hb : fn.body.isNone = false)
    (v u : Value) (hx : a.eval x = v) (hy : a.eval y = u) {R : Ending → World → Prop} (hc : Calls P f #[v, u] w R) (h : ∀ e w', R e w' → ∃ z, e = .returned z ∧ K (a.put o.dst z) w') :
    if Region.wanted o (yielded ops a.tmps) = true then Oper.wp P o a w K Q else E := by
  have hw : Region.wanted o (yielded ops a.tmps) = true := by simp [Region.wanted, hgd]
  rw [if_pos hw]
  have h1 : fn.name ≠ "runtime.NumGoroutine" := by simpa using hname
  have h2 : ¬ fn.body = none := by intro h; simp [h] at hb
  have hrun : (execOp a.eval o).run P w = .ok (.enter f #[v, u]) w := by
    unfold execOp
    have he : a.eval (.func f) = .func (.func f) #[] #[] := rfl
    simp [ho, resolve, invoke, callFunc, hf, h1, h2, hx, hy, Deferred.ofValue, he]
  unfold Oper.wp
  rw [hrun, Oper.upon_enter]
  refine hc.mono fun e w' hr => ?_
  obtain ⟨u, rfl, hk⟩ := h e w' hr
  exact hk
theorem step_row {o : Oper} {a : Act} {w : World} {K : Act → World → Prop} {E : Prop} (hgd : o.guard = none) (ty : TypeId) (x y : Operand) (ho : o.op = .store ty x y)
    (g : Nat) (t : TypeId) (old cells : List Value) (hx : a.eval x = .pointer (some ⟨g, 0, none⟩)) (hy : a.eval y = .agg cells.toArray) (hg : Blk w g t old)
    (hi : (P.info? ty).map (fun i => i.size) = some cells.length) (hold : old.length = cells.length) (h1 : cells.all (fun u => u.oneCell') = true) (B : Nat) (hB : B ≤ g)
    (h : ∀ w', Blk w' g t cells → Below B w w' → PushKept' g w w' → K (a.put o.dst undef) w') : if Region.wanted o (yielded ops a.tmps) = true then Oper.wp P o a w K Q else E := by
  have hw : Region.wanted o (yielded ops a.tmps) = true := by simp [Region.wanted, hgd]
  rw [if_pos hw]
  exact wp_store_row ty x y ho g cells.toArray hx hy t old.toArray hg (by simpa using hi) (by simpa using hold) (by simpa using h1)
    (h _ (hg.setRow cells) (below_setRow hB _) ⟨by simp [World.setRow], fun k _ hk => setRow_other w g k _ hk⟩)
end
end Go.Proofs.YtoebgbojpkflnaaGreatDoor
