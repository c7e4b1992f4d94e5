/- Proof of FnSquaresJoined, a part: The laws' of at a table. -/
import Derived.Outline
import Derived.Test.YtoebgbojpkflnaaGreatDoorJTabs
namespace Go.Proofs.YtoebgbojpkflnaaGreatDoor
open Go Go.RowKit
theorem info29 : (Tryz.prog.info? 29).map (fun i => (i.zero, i.size, i.bytes)) = some (some (.slice none 0 0), 1, 24) := by kernel_rfl
theorem Tab.at {B : Nat} {w : World} {eo ei sz : Nat} {g n c : Nat} {xs : List (List (List Value))} (h : Tab B w eo ei sz (.slice (some ⟨g, 0, none⟩) n c) xs) {i : Nat} {x : List (List Value)} (hx : xs[i]? = some x) :
    ∃ r, w.cell? ⟨g, i, none⟩ = some r ∧ Arr B w ei sz r x := by
  obtain ⟨rs, h1, h2, h3⟩ := h
  obtain ⟨r, hr⟩ : ∃ r, rs[i]? = some r := ⟨_, List.getElem?_eq_getElem (by have := (List.getElem?_eq_some_iff.1 hx).1; omega)⟩
  have hc := h1.cell0 (i := i) (x := [r]) (u := r) (by rw [List.getElem?_map, hr]; rfl) rfl
  rw [Nat.mul_one] at hc
  exact ⟨r, hc, (h3 i r x hr hx).1⟩
theorem Tab.own_ge {B : Nat} {w : World} {eo ei sz : Nat} {v : Value} {xs : List (List (List Value))} (h : Tab B w eo ei sz v xs) : ∀ k, v.ownBlock = some k → B ≤ k := by
  obtain ⟨rs, h1, _, _⟩ := h
  exact fun k hk => (h1.row.lt k hk).1
theorem Tab.own_lt {B : Nat} {w : World} {eo ei sz : Nat} {v : Value} {xs : List (List (List Value))} (h : Tab B w eo ei sz v xs) : ∀ k, v.ownBlock = some k → k < w.heap.size := by
  obtain ⟨rs, h1, _, _⟩ := h
  exact fun k hk => (h1.row.lt k hk).2
theorem Blk.grownBy' {w w' : World} {b : Nat} {t : TypeId} {cs : List Value} {row : Option Nat} (h : Blk w b t cs) (hg : w.grownBy w' row) (hne : row ≠ some b) : Blk w' b t cs := (hg.block b h.lt (fun e => hne e.symm)).trans h
end Go.Proofs.YtoebgbojpkflnaaGreatDoor
