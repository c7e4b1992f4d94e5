/- Proof of FnSquaresJoined, a part: What the small makers of values return (formulaArg, Arg, impl.Val) for a number, a text, a truth, an empty cell, an error. Conditions: a number is no NaN and no negative zero. -/
import Derived.Test.YtoebgbojpkflnaaGreatDoorJList
namespace Go.Proofs.YtoebgbojpkflnaaGreatDoor
open Go Go.RowKit
/-- A value without parts. -/
inductive Atom where
  | num (b : Nat)
  | text (s : ByteArray)
  | logic (x : Bool)
  | empty
  | err (s : ByteArray)
/-- The float 1. -/
abbrev one64 : Nat := 4607182418800017408
def boolFl (x : Bool) : Nat := if x then one64 else 0
/-- As impl.Val and as excelize.Arg. -/
def Atom.val : Atom → Value
  | .num b => .agg #[.int .i64 1, .float .f64 b, .string ⟨#[]⟩, .slice none 0 0]
  | .text s => .agg #[.int .i64 2, .float .f64 0, .string s, .slice none 0 0]
  | .logic x => .agg #[.int .i64 3, .float .f64 (boolFl x), .string ⟨#[]⟩, .slice none 0 0]
  | .empty => .agg #[.int .i64 0, .float .f64 0, .string ⟨#[]⟩, .slice none 0 0]
  | .err s => .agg #[.int .i64 4, .float .f64 0, .string s, .slice none 0 0]
/-- As formulaArg. -/
def Atom.fa : Atom → Value
  | .num b => .agg #[.string ⟨#[]⟩, .float .f64 b, .string ⟨#[]⟩, .slice none 0 0, .slice none 0 0, .bool false, .string ⟨#[]⟩, .int .u8 1, .pointer none, .pointer none]
  | .text s => .agg #[.string ⟨#[]⟩, .float .f64 0, .string s, .slice none 0 0, .slice none 0 0, .bool false, .string ⟨#[]⟩, .int .u8 2, .pointer none, .pointer none]
  | .logic x => .agg #[.string ⟨#[]⟩, .float .f64 (boolFl x), .string ⟨#[]⟩, .slice none 0 0, .slice none 0 0, .bool true, .string ⟨#[]⟩, .int .u8 1, .pointer none, .pointer none]
  | .empty => .agg #[.string ⟨#[]⟩, .float .f64 0, .string ⟨#[]⟩, .slice none 0 0, .slice none 0 0, .bool false, .string ⟨#[]⟩, .int .u8 6, .pointer none, .pointer none]
  | .err s => .agg #[.string ⟨#[]⟩, .float .f64 0, .string s, .slice none 0 0, .slice none 0 0, .bool false, .string s, .int .u8 5, .pointer none, .pointer none]
/-- A number that is no NaN and no negative zero. -/
def Good (b : Nat) : Prop := FloatKind.f64.format.order b b = some .eq ∧ (FloatKind.f64.format.order b 0 = some .eq → b = 0)
def Atom.Ok : Atom → Prop
  | .num b => Good b
  | _ => True
set_option maxHeartbeats 400000 in
theorem isNaN_any (b : Nat) (w : World) (h : FloatKind.f64.format.order b b = some .eq) :
    Calls Tryz.prog 148 #[.float .f64 b] w fun e w' => e = .returned (.bool false) ∧ w = w' := by
  go_enter Tryz.func148, Tryz.ntmps148
  go_wp2
  go_ret
  exact ⟨rfl, rfl⟩
set_option maxHeartbeats 400000 in
theorem newNum_any (b : Nat) (w : World) (h : Good b) :
    Calls Tryz.prog 117 #[.float .f64 b] w fun e w' => e = .returned (Atom.num b).fa ∧ Below w.heap.size w w' := by
  have H : Hid (Good b) := h
  obtain ⟨h1, h2⟩ := h
  by_cases h0 : FloatKind.f64.format.order b 0 = some .eq
  · obtain rfl := h2 h0
    clear h2
    go_enter Tryz.func117, Tryz.ntmps117
    go_wp2_with (go_at_call 148; refine (isNaN_any _ _ H.out.1).mono ?_; rintro e w' ⟨rfl, rfl⟩)
    all_goals go_returns
    all_goals exact ⟨rfl, by go_grown⟩
  · have h3 : (FloatKind.f64.format.order b 0 == some .eq) = false := by simpa using h0
    clear h2 h0
    go_enter Tryz.func117, Tryz.ntmps117
    go_wp2_with (go_at_call 148; refine (isNaN_any _ _ H.out.1).mono ?_; rintro e w' ⟨rfl, rfl⟩)
    go_returns
    exact ⟨rfl, by go_grown⟩
/-- An error with its message. -/
def errFa (s m : ByteArray) : Value := .agg #[.string ⟨#[]⟩, .float .f64 0, .string s, .slice none 0 0, .slice none 0 0, .bool false, .string m, .int .u8 5, .pointer none, .pointer none]
set_option maxHeartbeats 400000 in
theorem innerArg_zero (w : World) (h1 : (FloatKind.f64.format.order 0 0 != some .eq) = false) (h3 : (FloatKind.f64.format.order 0 0 == some .eq) = true) :
    Calls Tryz.prog 109 #[.agg #[.int .i64 1, .float .f64 0, .string ⟨#[]⟩, .slice none 0 0]] w fun e w' => e = .returned (Atom.num 0).fa ∧ Below w.heap.size w w' := by
  go_enter Tryz.func109, Tryz.ntmps109
  go_wp2
  go_returns
  exact ⟨rfl, by go_grown⟩
set_option maxHeartbeats 400000 in
theorem innerArg_num (b : Nat) (w : World) (h1 : (FloatKind.f64.format.order b b != some .eq) = false) (h3 : (FloatKind.f64.format.order b 0 == some .eq) = false) :
    Calls Tryz.prog 109 #[.agg #[.int .i64 1, .float .f64 b, .string ⟨#[]⟩, .slice none 0 0]] w fun e w' => e = .returned (Atom.num b).fa ∧ Below w.heap.size w w' := by
  go_enter Tryz.func109, Tryz.ntmps109
  go_wp2
  go_returns
  exact ⟨rfl, by go_grown⟩
set_option maxHeartbeats 400000 in
theorem innerArg_text (s : ByteArray) (w : World) :
    Calls Tryz.prog 109 #[.agg #[.int .i64 2, .float .f64 0, .string s, .slice none 0 0]] w fun e w' => e = .returned (Atom.text s).fa ∧ Below w.heap.size w w' := by
  go_enter Tryz.func109, Tryz.ntmps109
  go_wp2
  go_returns
  exact ⟨rfl, by go_grown⟩
set_option maxHeartbeats 400000 in
theorem innerArg_true (q : Nat) (w : World) (h : (FloatKind.f64.format.order q 0 != some .eq) = true) :
    Calls Tryz.prog 109 #[.agg #[.int .i64 3, .float .f64 q, .string ⟨#[]⟩, .slice none 0 0]] w fun e w' => e = .returned (Atom.logic true).fa ∧ Below w.heap.size w w' := by
  go_enter Tryz.func109, Tryz.ntmps109
  go_wp2
  go_returns
  exact ⟨rfl, by go_grown⟩
set_option maxHeartbeats 400000 in
theorem innerArg_false (q : Nat) (w : World) (h : (FloatKind.f64.format.order q 0 != some .eq) = false) :
    Calls Tryz.prog 109 #[.agg #[.int .i64 3, .float .f64 q, .string ⟨#[]⟩, .slice none 0 0]] w fun e w' => e = .returned (Atom.logic false).fa ∧ Below w.heap.size w w' := by
  go_enter Tryz.func109, Tryz.ntmps109
  go_wp2
  go_returns
  exact ⟨rfl, by go_grown⟩
set_option maxHeartbeats 400000 in
theorem innerArg_empty (w : World) :
    Calls Tryz.prog 109 #[.agg #[.int .i64 0, .float .f64 0, .string ⟨#[]⟩, .slice none 0 0]] w fun e w' => e = .returned Atom.empty.fa ∧ Below w.heap.size w w' := by
  go_enter Tryz.func109, Tryz.ntmps109
  go_wp2
  go_returns
  exact ⟨rfl, by go_grown⟩
set_option maxHeartbeats 400000 in
theorem innerArg_err (s : ByteArray) (w : World) :
    Calls Tryz.prog 109 #[.agg #[.int .i64 4, .float .f64 0, .string s, .slice none 0 0]] w fun e w' => e = .returned (Atom.err s).fa ∧ Below w.heap.size w w' := by
  go_enter Tryz.func109, Tryz.ntmps109
  go_wp2
  go_returns
  exact ⟨rfl, by go_grown⟩
theorem order00 : FloatKind.f64.format.order 0 0 = some .eq := by decide +kernel
theorem order10 : FloatKind.f64.format.order one64 0 = some .gt := by decide +kernel
/-- What a truth, a text, an error, an empty cell and a number become inside the package. -/
theorem innerArg_any (a : Atom) (w : World) (h : a.Ok) :
    Calls Tryz.prog 109 #[a.val] w fun e w' => e = .returned a.fa ∧ Below w.heap.size w w' := by
  cases a with
  | num b =>
    obtain ⟨h1, h2⟩ := h
    by_cases h0 : FloatKind.f64.format.order b 0 = some .eq
    · obtain rfl := h2 h0
      exact innerArg_zero w (by rw [h1]; rfl) (by rw [h0]; rfl)
    · exact innerArg_num b w (by rw [h1]; rfl) (by simpa using h0)
  | text s => exact innerArg_text s w
  | logic x =>
    cases x
    · exact innerArg_false _ w (by show (FloatKind.f64.format.order 0 0 != some .eq) = false; rw [order00]; rfl)
    · exact innerArg_true _ w (by show (FloatKind.f64.format.order one64 0 != some .eq) = true; rw [order10]; rfl)
  | empty => exact innerArg_empty w
  | err s => exact innerArg_err s w
end Go.Proofs.YtoebgbojpkflnaaGreatDoor
