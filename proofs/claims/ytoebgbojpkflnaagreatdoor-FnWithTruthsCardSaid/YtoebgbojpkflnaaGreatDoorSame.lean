/- What the laws' own helpers do at values without parts: of, same, textArgs, numArgs, findArgs. Conditions: whole numbers of at most 99999999999. -/
import Derived.Test.YtoebgbojpkflnaaGreatDoorDoor
import Derived.Test.YtoebgbojpkflnaaGreatDoorDiv
namespace Go.Proofs.YtoebgbojpkflnaaGreatDoor
open Go Go.RowKit

set_option maxRecDepth 20000 in
set_option maxHeartbeats 1000000 in
theorem of_text (s : ByteArray) (w : World) :
    Calls Tryz.prog 51 #[.agg #[.int .i64 2, .int .i64 0, .int .i64 0, .string s, .slice none 0 0]] w fun e w' => e = .returned (Atom.text s).val ∧ Below w.heap.size w w' := by
  go_enter Tryz.func51, Tryz.ntmps51
  go_wp2
  go_returns
  exact ⟨rfl, by go_grown⟩
set_option maxRecDepth 20000 in
set_option maxHeartbeats 1000000 in
theorem of_err (s : ByteArray) (w : World) :
    Calls Tryz.prog 51 #[.agg #[.int .i64 4, .int .i64 0, .int .i64 0, .string s, .slice none 0 0]] w fun e w' => e = .returned (Atom.err s).val ∧ Below w.heap.size w w' := by
  go_enter Tryz.func51, Tryz.ntmps51
  go_wp2
  go_returns
  exact ⟨rfl, by go_grown⟩
set_option maxRecDepth 20000 in
set_option maxHeartbeats 1000000 in
theorem of_num (n d : Int) (bn bd b : Nat) (cn : ∀ w', (convert 3 34 (.int .i64 n)).run Tryz.prog w' = .ok (.float .f64 bn) w') (cd : ∀ w', (convert 3 34 (.int .i64 d)).run Tryz.prog w' = .ok (.float .f64 bd) w')
    (hq : ∀ w', (binOp .quo 34 (.float .f64 bn) (.float .f64 bd)).run Tryz.prog w' = .ok (.float .f64 b) w') (w : World) :
    Calls Tryz.prog 51 #[.agg #[.int .i64 1, .int .i64 n, .int .i64 d, .string ⟨#[]⟩, .slice none 0 0]] w fun e w' => e = .returned (Atom.num b).val ∧ Below w.heap.size w w' := by
  go_enter Tryz.func51, Tryz.ntmps51
  go_wp2
  go_returns
  exact ⟨rfl, by go_grown⟩

/-- A value of the reference without parts. -/
inductive Sp where
  | text (s : ByteArray)
  | err (s : ByteArray)
  | int (n : Int)
def Sp.cells : Sp → List Value
  | .text s => [.int .i64 2, .int .i64 0, .int .i64 0, .string s, .slice none 0 0]
  | .err s => [.int .i64 4, .int .i64 0, .int .i64 0, .string s, .slice none 0 0]
  | .int n => [.int .i64 1, .int .i64 n, .int .i64 1, .string ⟨#[]⟩, .slice none 0 0]
def Sp.atom : Sp → Atom
  | .text s => .text s
  | .err s => .err s
  | .int n => .num (fx n 0)
def Sp.Ok : Sp → Prop
  | .int n => -99999999999 ≤ n ∧ n ≤ 99999999999
  | _ => True

theorem conv_int (n : Int) (w' : World) : (convert 3 34 (.int .i64 n)).run Tryz.prog w' = .ok (.float .f64 (fx n 0)) w' := by
  rw [← floatOfInt_fx]; exact run_convert_int_float w' 3 34 .i64 .f64 n (by rw [Tryz.underlying3]; rfl) Tryz.underlying34

theorem of_any (x : Sp) (w : World) (h : x.Ok) : Calls Tryz.prog 51 #[.agg x.cells.toArray] w fun e w' => e = .returned x.atom.val ∧ Below w.heap.size w w' := by
  cases x with
  | text s => exact of_text s w
  | err s => exact of_err s w
  | int n =>
    obtain ⟨h1, h2⟩ := h
    exact of_num n 1 (fx n 0) (fx 1 0) (fx n 0) (conv_int n) (conv_int 1) (fun w' => run_float_arith w' .quo 34 .f64 _ _ _ (div_one (by omega))) w

theorem sp_good (x : Sp) (h : x.Ok) : x.atom.Ok := by
  cases x with
  | text s => trivial
  | err s => trivial
  | int n => obtain ⟨h1, h2⟩ := h; exact good_fx (by omega)

set_option maxRecDepth 20000 in
set_option maxHeartbeats 1000000 in
theorem same_quad (k : Int) (b : Nat) (s : ByteArray) (y0 y1 y2 : Int) (y3 : ByteArray) (w : World) (hb : (FloatKind.f64.format.order b b != some .eq) = false)
    (hof : ∀ w1, Calls Tryz.prog 51 #[.agg #[.int .i64 y0, .int .i64 y1, .int .i64 y2, .string y3, .slice none 0 0]] w1 fun e w' => e = .returned (.agg #[.int .i64 k, .float .f64 b, .string s, .slice none 0 0]) ∧ Below w1.heap.size w1 w') :
    Calls Tryz.prog 22 #[.agg #[.int .i64 k, .float .f64 b, .string s, .slice none 0 0], .agg #[.int .i64 y0, .int .i64 y1, .int .i64 y2, .string y3, .slice none 0 0]] w fun e w' => e = .returned (.bool true) ∧ Below w.heap.size w w' := by
  have HO : Hid (∀ w1, Calls Tryz.prog 51 #[.agg #[.int .i64 y0, .int .i64 y1, .int .i64 y2, .string y3, .slice none 0 0]] w1 fun e w' => e = .returned (.agg #[.int .i64 k, .float .f64 b, .string s, .slice none 0 0]) ∧ Below w1.heap.size w1 w') := hof
  clear hof
  have hs : (s.toList == s.toList) = true := by simp
  go_enter Tryz.func22, Tryz.ntmps22
  go_wp2_with fail
  refine (HO.out _).mono ?_
  rintro e w1 ⟨rfl, hb1⟩
  have h2 := ((Blk.new w 37 [.int .i64 k, .float .f64 b, .string s, .slice none 0 0]).alloc (.cells #[.int .i64 y0, .int .i64 y1, .int .i64 y2, .string y3, .slice none 0 0] 27)).below hb1 (by simp; omega)
  have a0 := h2.get 0 rfl
  have a1 := h2.get 1 rfl
  have a2 := h2.get 2 rfl
  have a3 := h2.get 3 rfl
  have al := h2.lt
  have HB1 : Hid (Below w.heap.size w w1) := Below.trans (by go_grown) (hb1.mono (by simp; omega))
  clear h2 hb1
  go_wp2_with fail
  refine wp_loop_rounds 1 ?_
  rw [rounds_succ]
  go_wp2
  go_ret
  refine ⟨rfl, HB1.out.trans (Below.mono (by go_grown) HB1.out.size)⟩

theorem same_true (x : Sp) (w : World) (h : x.Ok) : Calls Tryz.prog 22 #[x.atom.val, .agg x.cells.toArray] w fun e w' => e = .returned (.bool true) ∧ Below w.heap.size w w' := by
  have hg := sp_good x h
  cases x with
  | text s => exact same_quad 2 0 s 2 0 0 s w (by decide +kernel) fun w1 => of_any (.text s) w1 h
  | err s => exact same_quad 4 0 s 4 0 0 s w (by decide +kernel) fun w1 => of_any (.err s) w1 h
  | int n => exact same_quad 1 (fx n 0) ⟨#[]⟩ 1 n 1 ⟨#[]⟩ w (by rw [hg.1]; rfl) fun w1 => of_any (.int n) w1 h
end Go.Proofs.YtoebgbojpkflnaaGreatDoor
