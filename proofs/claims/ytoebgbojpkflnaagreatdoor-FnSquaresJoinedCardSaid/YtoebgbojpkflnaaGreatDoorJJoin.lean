/- Proof of FnSquaresJoined, a part: Law 3's equations of sums, and the five functions at tables of whole numbers. -/
import Derived.Test.YtoebgbojpkflnaaGreatDoorJSumProd
import Derived.Test.YtoebgbojpkflnaaGreatDoorJSqDoor
import Derived.Test.YtoebgbojpkflnaaGreatDoorJSgn
import Derived.Test.YtoebgbojpkflnaaGreatDoorJComb
namespace Go.Proofs.YtoebgbojpkflnaaGreatDoor
open Go Go.RowKit
theorem tot_cons (f : Int → Int → Int) (x y : Int) (xs ys : List Int) : tot f (x :: xs) (y :: ys) = f x y + tot f xs ys := by simp [tot]
theorem sqs_cons (x : Int) (xs : List Int) : sqs (x :: xs) = x * x + sqs xs := by simp [sqs]
theorem eq1 : ∀ (xs ys : List Int), tot fD xs ys = tot fP xs ys - 2 * tot fT xs ys
  | [], _ => by simp [tot]
  | _ :: _, [] => by simp [tot]
  | x :: xs, y :: ys => by
    rw [tot_cons, tot_cons, tot_cons, eq1 xs ys]
    have : fD x y = fP x y - 2 * fT x y := by
      unfold fD fP fT
      rw [Int.sub_mul, Int.mul_sub, Int.mul_sub, Int.mul_comm y x]
      omega
    omega
theorem eq2 : ∀ (xs ys : List Int), xs.length = ys.length → tot fM xs ys = sqs xs - sqs ys
  | [], [], _ => by simp [tot, sqs]
  | [], _ :: _, h => by simp at h
  | _ :: _, [], h => by simp at h
  | x :: xs, y :: ys, h => by
    rw [tot_cons, sqs_cons, sqs_cons, eq2 xs ys (by simpa using h)]
    unfold fM; omega
theorem eq3 : ∀ (xs ys : List Int), xs.length = ys.length → tot fP xs ys = sqs xs + sqs ys
  | [], [], _ => by simp [tot, sqs]
  | [], _ :: _, h => by simp at h
  | _ :: _, [], h => by simp at h
  | x :: xs, y :: ys, h => by
    rw [tot_cons, sqs_cons, sqs_cons, eq3 xs ys (by simpa using h)]
    unfold fP; omega
theorem sg_atoms (ss : List Int) : (ss.map Sg.int).map Sg.atom = ss.map iA := by rw [List.map_map]; rfl
theorem sg_cells (ss : List Int) : (ss.map Sg.int).map (fun x => [x.cells]) = ss.map fun n => [iCells n] := by rw [List.map_map]; rfl
theorem sg_ok {ss : List Int} (h : SmallInts ss) : ∀ x ∈ ss.map Sg.int, x.Ok := by
  intro x hx
  obtain ⟨n, hn, rfl⟩ := List.mem_map.1 hx
  exact ⟨(h n hn).1, (h n hn).2.1⟩
theorem ts_ok {ts : List (List Int)} (h : ∀ ss ∈ ts, SmallInts ss ∧ ss ≠ [] ∧ ss.length ≤ 50) (hne : ts ≠ []) (hn : ts.length ≤ 100) : TsOk (ts.map fun ss => ss.map iA) := by
  refine ⟨?_, ?_, ?_, by rw [List.length_map]; exact hn, by simpa using hne⟩
  · intro t ht a ha
    obtain ⟨ss, hss, rfl⟩ := List.mem_map.1 ht
    obtain ⟨n, hn, rfl⟩ := List.mem_map.1 ha
    have := (h ss hss).1 n hn
    exact good_fx (by omega)
  · intro t ht e
    obtain ⟨ss, hss, rfl⟩ := List.mem_map.1 ht
    exact (h ss hss).2.1 (List.map_eq_nil_iff.1 e)
  · intro t ht
    obtain ⟨ss, hss, rfl⟩ := List.mem_map.1 ht
    rw [List.length_map]
    have := (h ss hss).2.2
    omega
theorem vars_stable : Stable Vars := ⟨fun _ _ h hb => h.below hb⟩
theorem val_num {n : Int} {w : World} {e : Ending} {w' : World} (h : GivesVal (fun r => r = .num (fx n 0)) w e w') : e = .returned (Atom.num (fx n 0)).val ∧ Below w.heap.size w w' := by
  obtain ⟨r, he, rfl, hb⟩ := h
  exact ⟨he, hb⟩
end Go.Proofs.YtoebgbojpkflnaaGreatDoor
