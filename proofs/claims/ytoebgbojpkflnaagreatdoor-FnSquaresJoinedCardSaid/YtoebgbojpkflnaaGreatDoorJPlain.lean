/- Proof of FnSquaresJoined, a part: in, doorArg, out, innerList at values without parts (numbers, texts, truths, empty cells, errors). Conditions: a number is no NaN and no negative zero; at most 1000 values. -/
import Derived.Test.YtoebgbojpkflnaaGreatDoorJConv
namespace Go.Proofs.YtoebgbojpkflnaaGreatDoor
open Go Go.RowKit
/-- A value without parts, as its cells. -/
def Atom.cells : Atom → List Value
  | .num b => [.int .i64 1, .float .f64 b, .string ⟨#[]⟩, .slice none 0 0]
  | .text s => [.int .i64 2, .float .f64 0, .string s, .slice none 0 0]
  | .logic x => [.int .i64 3, .float .f64 (boolFl x), .string ⟨#[]⟩, .slice none 0 0]
  | .empty => [.int .i64 0, .float .f64 0, .string ⟨#[]⟩, .slice none 0 0]
  | .err s => [.int .i64 4, .float .f64 0, .string s, .slice none 0 0]
theorem Atom.val_eq (a : Atom) : a.val = .agg a.cells.toArray := by cases a <;> rfl
/-- A row of four cells whose slice is nil. -/
def Trio (x : List Value) : Prop := ∃ k b s, x = [.int .i64 k, .float .f64 b, .string s, .slice none 0 0]
theorem Atom.trio (a : Atom) : Trio a.cells := by cases a <;> exact ⟨_, _, _, rfl⟩
theorem take_snoc {α : Type} {xs : List α} {k : Nat} {x : α} (h : xs[k]? = some x) : xs.take (k + 1) = xs.take k ++ [x] := by
  obtain ⟨hk, rfl⟩ := List.getElem?_eq_some_iff.1 h
  exact List.take_succ_eq_append_getElem hk
set_option maxRecDepth 20000 in
set_option maxHeartbeats 800000 in
theorem in_plain (xs : List (List Value)) (v : Value) (w : World) (g c : Nat) (hv : v = .slice (some ⟨g, 0, none⟩) xs.length c) (hrow : Arr 0 w 37 4 v xs) (hq : ∀ x ∈ xs, Trio x) (hn : xs.length ≤ 1000) :
    Calls Tryz.prog 54 #[v] w fun e w' => ∃ v', e = .returned v' ∧ Arr w.heap.size w' 64 4 v' xs ∧ Below w.heap.size w w' := by
  subst hv
  obtain ⟨n, hnn⟩ : ∃ n, n = xs.length := ⟨_, rfl⟩
  rw [← hnn]
  have HN : Hid (n = xs.length) := hnn
  rw [← hnn] at hrow hn
  clear hnn
  go_enter Tryz.func54, Tryz.ntmps54
  go_wp2
  go_loopw [3, 11] (fun v i wr => ∃ (k : Nat), k ≤ n ∧ i = .int .i64 k ∧ Arr w.heap.size wr 64 4 v (xs.take k) ∧ Below w.heap.size w wr) (fun _ i _ => n - (intOf i).toNat)
  case atStart => exact ⟨0, Nat.zero_le _, rfl, Arr.nil _ _ _ _, Below.refl _ _⟩
  case round =>
    obtain ⟨k, hk, rfl, harr, hb2⟩ := hrel
    by_cases hlt : k < n
    · obtain ⟨x, hx⟩ : ∃ x, xs[k]? = some x := ⟨_, List.getElem?_eq_getElem (by rw [← HN.out]; exact hlt)⟩
      have hrow2 := hrow.keep hb2
      obtain ⟨x0, x1, x2, rfl⟩ := hq x (List.mem_of_getElem? hx)
      have c0 := hrow2.cell0 hx (u := .int .i64 x0) rfl
      have c1 := hrow2.cell (j := 1) hx (u := .float .f64 x1) rfl
      have c2 := hrow2.cell (j := 2) hx (u := .string x2) rfl
      have c3 := hrow2.cell (j := 3) hx (u := .slice none 0 0) rfl
      have HX : Hid (xs[k]? = some [.int .i64 x0, .float .f64 x1, .string x2, .slice none 0 0]) := hx
      clear hx hrow2
      go_wp2_with fail
      refine wp_loop_rounds 1 ?_
      rw [rounds_succ]
      have hlen : (xs.take k).length ≤ 4000000000 := by have := List.length_take_le k xs; omega
      have HL4 : Hid ((xs.take k).length ≤ 4000000000) := hlen
      clear hlen
      go_wp2_with (at_builtin; refine append_one rfl _ _ 66 rfl w.heap.size 64 _ 4 56 Tryz.underlying66 info64 rfl (by decide) (by decide) _ (xs.take k) rfl (((harr.alloc _).alloc _).alloc _) ⟨wr.heap.size + 1 + 1, 0, none⟩ 1 [.int .i64 x0, .float .f64 x1, .string x2, .slice none 0 0] rfl rfl (news_cells _ _ _ _ (by simp)) (quad_one _ _ _ _ _ _) HL4.out (le_alloc3 hb2.size _ _ _) ?_; intro v' w2 harr2 hb3)
      refine ⟨⟨k + 1, by omega, by go_num, by rw [take_snoc HX.out]; exact harr2, ?_⟩, by simp [intOf]; omega⟩
      exact (((hb2.alloc hb2.size _).alloc (le_alloc1 hb2.size _) _).alloc (le_alloc2 hb2.size _ _) _).trans hb3
    · have hkn : k = n := by omega
      subst hkn
      go_wp2
      go_ret
      exact ⟨_, rfl, by rw [List.take_of_length_le (by rw [← HN.out]; exact Nat.le_refl _)] at harr; exact harr, hb2⟩
set_option maxHeartbeats 400000 in
theorem doorArg_num (b : Nat) (w : World) :
    Calls Tryz.prog 81 #[.agg #[.string ⟨#[]⟩, .float .f64 b, .string ⟨#[]⟩, .slice none 0 0, .slice none 0 0, .bool false, .string ⟨#[]⟩, .int .u8 1, .pointer none, .pointer none]] w fun e w' => e = .returned (Atom.num b).val ∧ Below w.heap.size w w' := by
  go_enter Tryz.func81, Tryz.ntmps81
  go_wp2
  go_returns
  exact ⟨rfl, by go_grown⟩
set_option maxHeartbeats 400000 in
theorem doorArg_text (s : ByteArray) (w : World) :
    Calls Tryz.prog 81 #[.agg #[.string ⟨#[]⟩, .float .f64 0, .string s, .slice none 0 0, .slice none 0 0, .bool false, .string ⟨#[]⟩, .int .u8 2, .pointer none, .pointer none]] w fun e w' => e = .returned (Atom.text s).val ∧ Below w.heap.size w w' := by
  go_enter Tryz.func81, Tryz.ntmps81
  go_wp2
  go_returns
  exact ⟨rfl, by go_grown⟩
set_option maxHeartbeats 400000 in
theorem doorArg_err (s m : ByteArray) (w : World) :
    Calls Tryz.prog 81 #[.agg #[.string ⟨#[]⟩, .float .f64 0, .string s, .slice none 0 0, .slice none 0 0, .bool false, .string m, .int .u8 5, .pointer none, .pointer none]] w fun e w' => e = .returned (Atom.err s).val ∧ Below w.heap.size w w' := by
  go_enter Tryz.func81, Tryz.ntmps81
  go_wp2
  go_returns
  exact ⟨rfl, by go_grown⟩
set_option maxRecDepth 20000 in
set_option maxHeartbeats 400000 in
theorem out_quad (k : Int) (b : Nat) (s : ByteArray) (w : World) :
    Calls Tryz.prog 52 #[.agg #[.int .i64 k, .float .f64 b, .string s, .slice none 0 0]] w fun e w' => e = .returned (.agg #[.int .i64 k, .float .f64 b, .string s, .slice none 0 0]) ∧ Below w.heap.size w w' := by
  go_enter Tryz.func52, Tryz.ntmps52
  go_wp2_with fail
  refine wp_loop_rounds 1 ?_
  rw [rounds_succ]
  go_wp2
  go_returns
  exact ⟨rfl, by go_grown⟩
theorem out_atom (a : Atom) (w : World) : Calls Tryz.prog 52 #[a.val] w fun e w' => e = .returned a.val ∧ Below w.heap.size w w' := by
  cases a <;> exact out_quad _ _ _ w
/-- What a function of the package hands back: a number, a text, an error with a message. -/
inductive Res where
  | num (b : Nat)
  | text (s : ByteArray)
  | err (s m : ByteArray)
def Res.fa : Res → Value
  | .num b => (Atom.num b).fa
  | .text s => (Atom.text s).fa
  | .err s m => errFa s m
def Res.atom : Res → Atom
  | .num b => .num b
  | .text s => .text s
  | .err s _ => .err s
theorem doorArg_res (r : Res) (w : World) : Calls Tryz.prog 81 #[r.fa] w fun e w' => e = .returned r.atom.val ∧ Below w.heap.size w w' := by
  cases r
  · exact doorArg_num _ w
  · exact doorArg_text _ w
  · exact doorArg_err _ _ w
end Go.Proofs.YtoebgbojpkflnaaGreatDoor
