/- Small helpers of several laws: the spec's whole numbers, a slice out of a block, remainders. -/
import Derived.Test.YtoebgbojpkflnaaGreatDoorArgs
import Derived.Lib.Hide
import Derived.Deep.RegionWith
namespace Go.Proofs.YtoebgbojpkflnaaGreatDoor
open Go Go.RowKit
theorem int_spec (n : Int) (h1 : -99999999999 ≤ n) (h2 : n ≤ 99999999999) (w : World) :
    Calls Tryz.prog 24 #[.int .i64 n] w fun e w' => e = .returned (.agg #[.int .i64 1, .int .i64 n, .int .i64 1, .string ⟨#[]⟩, .slice none 0 0]) ∧ Below w.heap.size w w' := by
  go_enter Tryz.func24, Tryz.ntmps24
  go_wp2
  go_returns
  exact ⟨rfl, by go_grown⟩
theorem same_int (n : Int) (h1 : -99999999999 ≤ n) (h2 : n ≤ 99999999999) (b : Nat) (hb : b = fx n 0) (w : World) :
    Calls Tryz.prog 22 #[(Atom.num b).val, .agg #[.int .i64 1, .int .i64 n, .int .i64 1, .string ⟨#[]⟩, .slice none 0 0]] w fun e w' => e = .returned (.bool true) ∧ Below w.heap.size w w' := by
  subst hb
  exact same_true (.int n) w ⟨h1, h2⟩
theorem arab_ofBlk {B : Nat} {w : World} {e sz g : Nat} {xs : List (List Value)} (h : Blk w g e xs.flatten) (hw : ∀ x ∈ xs, x.length = sz) (hB : B ≤ g) (hn : xs.length ≤ maxLen) : Arr B w e sz (.slice (some ⟨g, 0, none⟩) xs.length xs.length) xs := by
  have hl : xs.flatten.length = xs.length * sz := by
    clear h hn
    induction xs with
    | nil => simp
    | cons y ys ih => rw [List.flatten_cons, List.length_append, ih fun x hx => hw x (List.mem_cons_of_mem _ hx), hw y (by simp), List.length_cons, Nat.succ_mul, Nat.add_comm]
  exact ⟨⟨hl, .inr ⟨g, xs.length, xs.flatten.toArray, rfl, hB, h, Nat.le_refl _, hn, by simpa using hl, by rw [← hl]; exact List.take_length⟩⟩, hw⟩
theorem tmod_small (n : Int) (k : Int) (hk : 0 < k) : -k < n.tmod k ∧ n.tmod k < k := by
  refine ⟨?_, Int.tmod_lt_of_pos n hk⟩
  rcases Int.le_total 0 n with h | h
  · have := Int.tmod_nonneg k h; omega
  · have h1 := Int.tmod_lt_of_pos (-n) hk
    rw [Int.neg_tmod] at h1
    omega
theorem sz27 : (Tryz.prog.info? 27).map (fun i => i.size) = some 5 := by kernel_rfl
end Go.Proofs.YtoebgbojpkflnaaGreatDoor
