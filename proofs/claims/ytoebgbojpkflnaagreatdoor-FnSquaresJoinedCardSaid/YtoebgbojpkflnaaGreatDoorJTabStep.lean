/- Proof of FnSquaresJoined, a part: append of one row to a table at a step of a region that draws its order. -/
import Derived.Deep.AppendLies
import Derived.RegionTactic
import Derived.Test.YtoebgbojpkflnaaGreatDoorJTab
namespace Go.Proofs.YtoebgbojpkflnaaGreatDoor
open Go Go.RowKit
variable {w : World}
theorem step_append_tab {P : Program} {ops : Array Oper} {o : Oper} {a : Act} {K : Act → World → Prop} {Q : Exit → Act → World → Prop} {E : Prop} (hgd : o.guard = none) (s x : Operand) (t : TypeId)
    (ho : o.op = .call { callee := .builtin .append, args := #[s, x], argTypes := #[t, t] })
    (B : Nat) (eo ei sz : Nat) (z : Value) (bytes : Nat) (ht : P.underlying t = some (.slice eo)) (hinf : (P.info? eo).map (fun i => (i.zero, i.size, i.bytes)) = some (some z, 1, bytes))
    (hzs : z.cells.size = 1) (hby : bytes ≤ 1000)
    (v : Value) (xs : List (List (List Value))) (hs : a.eval s = v) (htab : Tab B w eo ei sz v xs)
    (ad : Addr) (c : Nat) (r : Value) (y : List (List Value)) (hx : a.eval x = .slice (some ad) 1 c) (hnews : w.cell? (ad.add 0) = some r) (h1 : r.oneCell' = true)
    (hr : Arr B w ei sz r y) (hne : ∀ k, v.ownBlock = some k → r.ownBlock ≠ some k) (hn : xs.length ≤ 4000000000) (hB : B ≤ w.heap.size)
    (h : ∀ v' w', Tab B w' eo ei sz v' (xs ++ [y]) → w.grownBy w' v.ownBlock → K (a.put o.dst v') w') :
    if Region.wanted o (yielded ops a.tmps) = true then Oper.wp P o a w K Q else E := by
  have hw : Region.wanted o (yielded ops a.tmps) = true := by simp [Region.wanted, hgd]
  rw [if_pos hw]
  obtain ⟨rs, t1, t2, t3⟩ := htab
  obtain ⟨i, hi, hz0, hz1, hz2⟩ := info_parts hinf
  have hl : (rs.map fun r => [r]).length = xs.length := by rw [List.length_map, t2]
  have hmul : ((rs.map fun r => [r]).length + 1) * bytes ≤ ((rs.map fun r => [r]).length + 1) * 1000 := Nat.mul_le_mul_left _ hby
  obtain ⟨v', w', hrun, h2, h3, _, h5⟩ := run_append_own_at (P := P) w B t o.type eo i z 1 bytes ht hi hz0 hz1 hz2 hzs (by omega) v (rs.map fun r => [r]).length (rs.map fun r => [r]).flatten t1.row ad 1 c [r] rfl
    (by
      intro j u hu
      match j, hu with
      | 0, hu => simp at hu; subst hu; exact hnews
      | j + 1, hu => simp at hu) (by simpa using h1) (by simp only [maxLen]; omega) (by omega) hB
  unfold Oper.wp execOp
  simp only [ho, resolve, invoke, builtin, Sem.run_bind, Sem.run_pure, Result.andThen_ok, List.map_toArray, List.map_cons, List.map_nil, hs, hx, hrun]
  exact h v' w' (Tab.snoc t3 t2 (by rw [List.map_append]; exact Arr.snoc (x := [r]) h2 t1.wid rfl) h3 h5 hr hne) h3
end Go.Proofs.YtoebgbojpkflnaaGreatDoor
