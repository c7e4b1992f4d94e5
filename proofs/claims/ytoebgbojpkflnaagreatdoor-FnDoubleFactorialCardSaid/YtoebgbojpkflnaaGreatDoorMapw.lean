/- A map from runes to integers that the call makes: an insert of a new key, a look-up, both at entries that are known. Conditions: as each law names them. -/
import Derived.Test.YtoebgbojpkflnaaGreatDoorKit
import Derived.MapKept
namespace Go.Proofs.YtoebgbojpkflnaaGreatDoor
open Go Go.RowKit

/-- Entries as they were inserted: keys and values, the first one first. -/
def entries (l : List (Int × Int)) : Array MapEntry := (l.zipIdx.map fun x => ({ key := .int .i32 x.1.1, val := .int .i64 x.1.2, born := x.2 } : MapEntry)).toArray
/-- Block g is a map of these entries. -/
def IsMap (w : World) (g : Nat) (l : List (Int × Int)) : Prop := w.heap[g]? = some (.map (entries l) l.length)
theorem IsMap.lt {w : World} {g : Nat} {l : List (Int × Int)} (h : IsMap w g l) : g < w.heap.size := lt_of_block h
theorem IsMap.made (w : World) : IsMap (w.alloc (.map #[] 0)) w.heap.size [] := heap_alloc_new w _
def findIn (k : Int) : List (Int × Int) → Nat → Option (Nat × Int)
  | [], _ => none
  | e :: es, i => if k = e.1 then some (i, e.2) else findIn k es (i + 1)
theorem findNow_in (k : Int) : ∀ (l : List (Int × Int)) (n i : Nat), Instr.findNow (.int .i32) (.int .i32 k) ((l.zipIdx n).map fun x => ({ key := .int .i32 x.1.1, val := .int .i64 x.1.2, born := x.2 } : MapEntry)) i = some ((findIn k l i).map fun r => (r.1, Value.int .i64 r.2))
  | [], _, _ => rfl
  | e :: es, n, i => by
    simp only [List.zipIdx_cons, List.map_cons, Instr.findNow, Instr.sameNow, findIn, if_true]
    by_cases h : k = e.1
    · simp [h]
    · rw [if_neg h]
      have hb : (k == e.1) = false := by simpa using h
      simp only [hb]
      exact findNow_in k es (n + 1) (i + 1)
theorem run_key (w : World) (k : Int) (e : Bool) (n : Nat) : (Instr.checkKey e (n + 1) 21 (.int .i32 k)).run Tryz.prog w = .ok () w := MapKept.run_checkKey Tryz.underlying21 (by trivial) e n
theorem run_find (w : World) (l : List (Int × Int)) (k : Int) : (Instr.findKey 21 (.int .i32 k) (entries l).toList).run Tryz.prog w = .ok ((findIn k l 0).map fun r => (r.1, Value.int .i64 r.2)) w := by
  have h := findNow_in k l 0 0
  simp [Instr.findKey, run_underlying Tryz.underlying21, entries, h]
theorem entries_push (l : List (Int × Int)) (k v : Int) : (entries l).push { key := .int .i32 k, val := .int .i64 v, born := l.length } = entries (l ++ [(k, v)]) := by
  simp [entries, List.zipIdx_append]
theorem run_insert_new {w : World} {g : Nat} {l : List (Int × Int)} (h : IsMap w g l) (k v : Int) (hf : findIn k l 0 = none) :
    ∃ w', (Instr.mapUpdate 122 (.map (some g)) (.int .i32 k) (.int .i64 v)).run Tryz.prog w = .ok () w' ∧ IsMap w' g (l ++ [(k, v)]) ∧ PushKept' g w w' ∧ ∀ B, B ≤ g → Below B w w' := by
  have hb : w.heap[g]? = some (.map (entries l) l.length) := h
  have hlt := h.lt
  refine ⟨{ w with heap := w.heap.setIfInBounds g (.map (entries (l ++ [(k, v)])) (l.length + 1)) }, ?_, ?_, ?_, ?_⟩
  · simp [Instr.mapUpdate, run_underlying Tryz.underlying122, MapKept.run_getObj_map hb, run_key w k false 9999, run_find w l k, hf, MapKept.run_setObj_map _ hb, Result.andThen, entries_push]
  · unfold IsMap
    simp [hlt]
  · exact ⟨by simp, fun i _ hi => by simp [Ne.symm hi]⟩
  · intro B hB
    exact ⟨rfl, rfl, rfl, by simp, fun i hi => by
      have : g ≠ i := by omega
      simp [this]⟩
theorem run_look {w : World} {g : Nat} {l : List (Int × Int)} (h : IsMap w g l) (k : Int) (i : Nat) (v : Int) (hf : findIn k l 0 = some (i, v)) :
    (Instr.lookup 122 (.map (some g)) (.int .i32 k) false).run Tryz.prog w = .ok (.int .i64 v) w := by
  have hb : w.heap[g]? = some (.map (entries l) l.length) := h
  simp [Instr.lookup, run_underlying Tryz.underlying122, MapKept.run_getObj_map hb, run_key w k _ 9999, run_find w l k, hf, Result.andThen]
/-- An insert of a new key, as an operation of a walk. -/
theorem insert_new {w : World} {ops : Array Oper} {rest : List Oper} {o : Oper} {a : Act} {Q : Exit → Act → World → Prop} (hgd : o.guard = none) (m x v : Operand) (hop : o.op = Op.insert 122 m x v)
    (g : Nat) (l : List (Int × Int)) (key val : Int) (hm : a.eval m = .map (some g)) (hx : a.eval x = .int .i32 key) (hv : a.eval v = .int .i64 val) (h : IsMap w g l) (hf : findIn key l 0 = none) (B : Nat) (hB : B ≤ g)
    (hK : ∀ w', IsMap w' g (l ++ [(key, val)]) → Below B w w' → wpList Tryz.prog ops Q rest (a.put o.dst undef) w') : wpList Tryz.prog ops Q (o :: rest) a w := by
  refine wpList_plain hgd fun K' hK' => ?_
  obtain ⟨w', hrun, r1, _, r2⟩ := run_insert_new h key val hf
  unfold Oper.wp
  simp [execOp, hop, hm, hx, hv, hrun, Result.andThen]
  exact hK' _ _ (hK w' r1 (r2 B hB))
/-- A map that the call is filling. -/
def Filling (B : Nat) (W w : World) (g : Nat) (l : List (Int × Int)) : Prop := IsMap w g l ∧ Below B W w ∧ B ≤ g
theorem insert_next {w : World} {ops : Array Oper} {rest : List Oper} {o : Oper} {a : Act} {Q : Exit → Act → World → Prop} (hgd : o.guard = none) (m x v : Operand) (hop : o.op = Op.insert 122 m x v)
    (g : Nat) (l : List (Int × Int)) (key val : Int) (hm : a.eval m = .map (some g)) (hx : a.eval x = .int .i32 key) (hv : a.eval v = .int .i64 val) (B : Nat) (W : World) (h : Filling B W w g l) (hf : findIn key l 0 = none)
    (hK : ∀ w', Filling B W w' g (l ++ [(key, val)]) → wpList Tryz.prog ops Q rest (a.put o.dst undef) w') : wpList Tryz.prog ops Q (o :: rest) a w :=
  insert_new hgd m x v hop g l key val hm hx hv h.1 hf B h.2.2 fun w' h1 h2 => hK w' ⟨h1, h.2.1.trans h2, h.2.2⟩
end Go.Proofs.YtoebgbojpkflnaaGreatDoor
