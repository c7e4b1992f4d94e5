/- Proof of FnSquaresJoined, a part: The function behind REPLACE and REPLACEB, at texts of at most 500 bytes and places that are there: the bytes are replaced. -/
import Derived.Lib.Hide
import Derived.Deep.RegionWith
import Derived.Test.YtoebgbojpkflnaaGreatDoorJPlain
import Derived.Test.YtoebgbojpkflnaaGreatDoorJFl
import Derived.Test.YtoebgbojpkflnaaGreatDoorJDiv
namespace Go.Proofs.YtoebgbojpkflnaaGreatDoor
open Go Go.RowKit
theorem size84 : (Tryz.prog.info? 84).map (fun i => i.size) = some 10 := by kernel_rfl
theorem blk_at {w : World} {b b' : Nat} {t : TypeId} {cs : List Value} (h : b' = b) (hb : Blk w b t cs) : Blk w b' t cs := h ▸ hb
end Go.Proofs.YtoebgbojpkflnaaGreatDoor
namespace Go.Proofs.YtoebgbojpkflnaaGreatDoor
open Go Go.RowKit
theorem good_fx {n : Int} (h : n.natAbs < 2 ^ 53) : Good (fx n 0) := by
  refine ⟨order_self h (by omega) (by omega), fun h0 => ?_⟩
  rw [show FloatKind.f64.format.order (fx n 0) 0 = some (compare n 0) from order_zero h (by omega) (by omega)] at h0
  have : n = 0 := by
    have := Option.some.inj h0
    simp only [compare, compareOfLessAndEq] at this
    split at this
    · cases this
    · split at this
      · assumption
      · cases this
  subst this
  exact fx_zero 0
end Go.Proofs.YtoebgbojpkflnaaGreatDoor
namespace Go.Proofs.YtoebgbojpkflnaaGreatDoor
open Go Go.RowKit
def Res.cells : Res → List Value
  | .num b => [.string ⟨#[]⟩, .float .f64 b, .string ⟨#[]⟩, .slice none 0 0, .slice none 0 0, .bool false, .string ⟨#[]⟩, .int .u8 1, .pointer none, .pointer none]
  | .text s => [.string ⟨#[]⟩, .float .f64 0, .string s, .slice none 0 0, .slice none 0 0, .bool false, .string ⟨#[]⟩, .int .u8 2, .pointer none, .pointer none]
  | .err s m => [.string ⟨#[]⟩, .float .f64 0, .string s, .slice none 0 0, .slice none 0 0, .bool false, .string m, .int .u8 5, .pointer none, .pointer none]
theorem Res.fa_eq (r : Res) : r.fa = .agg r.cells.toArray := by cases r <;> rfl
theorem Res.len (r : Res) : r.cells.length = 10 := by cases r <;> rfl
theorem Res.one (r : Res) : r.cells.all (fun u => u.oneCell') = true := by cases r <;> rfl
/-- A result stored into its own block. -/
theorem store_res {w : World} {ops : Array Oper} {rest : List Oper} {o : Oper} {a : Act} {Q : Exit → Act → World → Prop} (hgd : o.guard = none) (x y : Operand) (ho : o.op = .store 84 x y)
    (g : Nat) (old : List Value) (r : Res) (hx : a.eval x = .pointer (some ⟨g, 0, none⟩)) (hy : a.eval y = r.fa) (hg : Blk w g 84 old) (hold : old.length = 10) (B : Nat) (hB : B ≤ g)
    (h : ∀ w', Blk w' g 84 r.cells → Below B w w' → wpList Tryz.prog ops Q rest (a.put o.dst undef) w') : wpList Tryz.prog ops Q (o :: rest) a w :=
  store_row hgd 84 x y ho g 84 old r.cells hx (by rw [hy, Res.fa_eq]) hg (by rw [r.len]; exact size84) (by rw [r.len]; exact hold) r.one B hB fun w' h1 h2 _ => h w' h1 h2
theorem ret_res {fn : Func} {p : Tmp} (h : fn.results = #[.cell p 84]) (tmps : Array Value) (w : World) (g : Nat) (r : Res) (hp : tmps.getD p undef = .pointer (some ⟨g, 0, none⟩)) (hg : Blk w g 84 r.cells) :
    (results fn tmps).run Tryz.prog w = .ok r.fa w := by
  rw [Res.fa_eq]
  exact ret_row h tmps w g 84 r.cells _ hp hg Tryz.underlying84 rfl (by rw [r.len]; exact size84)
end Go.Proofs.YtoebgbojpkflnaaGreatDoor
namespace Go.Proofs.YtoebgbojpkflnaaGreatDoor
open Go Go.RowKit
theorem size64 : (Tryz.prog.info? 64).map (fun i => i.size) = some 4 := by kernel_rfl
theorem size37 : (Tryz.prog.info? 37).map (fun i => i.size) = some 4 := by kernel_rfl
theorem Atom.clen (a : Atom) : a.cells.length = 4 := by cases a <;> rfl
theorem Atom.one (a : Atom) : a.cells.all (fun u => u.oneCell') = true := by cases a <;> rfl
/-- A function of the package answers with one of the results that P names; nothing that was there is touched. -/
def Gives (P : Res → Prop) (w : World) (e : Ending) (w' : World) : Prop := ∃ r, e = .returned r.fa ∧ P r ∧ Below w.heap.size w w'
def GivesVal (P : Res → Prop) (w : World) (e : Ending) (w' : World) : Prop := ∃ r : Res, e = .returned r.atom.val ∧ P r ∧ Below w.heap.size w w'
end Go.Proofs.YtoebgbojpkflnaaGreatDoor
namespace Go.Proofs.YtoebgbojpkflnaaGreatDoor
open Go Go.RowKit
set_option maxRecDepth 20000 in
set_option maxHeartbeats 1000000 in
theorem of_text (s : ByteArray) (w : World) :
    Calls Tryz.prog 51 #[.agg #[.int .i64 2, .int .i64 0, .int .i64 0, .string s, .slice none 0 0]] w fun e w' => e = .returned (Atom.text s).val ∧ Below w.heap.size w w' := by
  go_enter Tryz.func51, Tryz.ntmps51
  go_wp2
  go_returns
  exact ⟨rfl, by go_grown⟩
set_option maxRecDepth 20000 in
set_option maxHeartbeats 1000000 in
theorem of_err (s : ByteArray) (w : World) :
    Calls Tryz.prog 51 #[.agg #[.int .i64 4, .int .i64 0, .int .i64 0, .string s, .slice none 0 0]] w fun e w' => e = .returned (Atom.err s).val ∧ Below w.heap.size w w' := by
  go_enter Tryz.func51, Tryz.ntmps51
  go_wp2
  go_returns
  exact ⟨rfl, by go_grown⟩
set_option maxRecDepth 20000 in
set_option maxHeartbeats 1000000 in
theorem of_num (n d : Int) (bn bd b : Nat) (cn : ∀ w', (convert 3 34 (.int .i64 n)).run Tryz.prog w' = .ok (.float .f64 bn) w') (cd : ∀ w', (convert 3 34 (.int .i64 d)).run Tryz.prog w' = .ok (.float .f64 bd) w')
    (hq : ∀ w', (binOp .quo 34 (.float .f64 bn) (.float .f64 bd)).run Tryz.prog w' = .ok (.float .f64 b) w') (w : World) :
    Calls Tryz.prog 51 #[.agg #[.int .i64 1, .int .i64 n, .int .i64 d, .string ⟨#[]⟩, .slice none 0 0]] w fun e w' => e = .returned (Atom.num b).val ∧ Below w.heap.size w w' := by
  go_enter Tryz.func51, Tryz.ntmps51
  go_wp2
  go_returns
  exact ⟨rfl, by go_grown⟩
/-- A value of the reference without parts. -/
inductive Sp where
  | text (s : ByteArray)
  | err (s : ByteArray)
  | int (n : Int)
def Sp.cells : Sp → List Value
  | .text s => [.int .i64 2, .int .i64 0, .int .i64 0, .string s, .slice none 0 0]
  | .err s => [.int .i64 4, .int .i64 0, .int .i64 0, .string s, .slice none 0 0]
  | .int n => [.int .i64 1, .int .i64 n, .int .i64 1, .string ⟨#[]⟩, .slice none 0 0]
def Sp.atom : Sp → Atom
  | .text s => .text s
  | .err s => .err s
  | .int n => .num (fx n 0)
def Sp.Ok : Sp → Prop
  | .int n => -99999999999 ≤ n ∧ n ≤ 99999999999
  | _ => True
theorem conv_int (n : Int) (w' : World) : (convert 3 34 (.int .i64 n)).run Tryz.prog w' = .ok (.float .f64 (fx n 0)) w' := by
  rw [← floatOfInt_fx]; exact run_convert_int_float w' 3 34 .i64 .f64 n (by rw [Tryz.underlying3]; rfl) Tryz.underlying34
theorem of_any (x : Sp) (w : World) (h : x.Ok) : Calls Tryz.prog 51 #[.agg x.cells.toArray] w fun e w' => e = .returned x.atom.val ∧ Below w.heap.size w w' := by
  cases x with
  | text s => exact of_text s w
  | err s => exact of_err s w
  | int n =>
    obtain ⟨h1, h2⟩ := h
    exact of_num n 1 (fx n 0) (fx 1 0) (fx n 0) (conv_int n) (conv_int 1) (fun w' => run_float_arith w' .quo 34 .f64 _ _ _ (div_one (by omega))) w
end Go.Proofs.YtoebgbojpkflnaaGreatDoor
namespace Go.Proofs.YtoebgbojpkflnaaGreatDoor
open Go Go.RowKit
theorem info37 : (Tryz.prog.info? 37).map (fun i => (i.zero, i.size, i.bytes)) = some (some (.agg #[.int .i64 0, .float .f64 0, .string ⟨#[]⟩, .slice none 0 0]), 4, 56) := by kernel_rfl
end Go.Proofs.YtoebgbojpkflnaaGreatDoor
namespace Go.Proofs.YtoebgbojpkflnaaGreatDoor
open Go Go.RowKit
theorem int_spec (n : Int) (h1 : -99999999999 ≤ n) (h2 : n ≤ 99999999999) (w : World) :
    Calls Tryz.prog 24 #[.int .i64 n] w fun e w' => e = .returned (.agg #[.int .i64 1, .int .i64 n, .int .i64 1, .string ⟨#[]⟩, .slice none 0 0]) ∧ Below w.heap.size w w' := by
  go_enter Tryz.func24, Tryz.ntmps24
  go_wp2
  go_returns
  exact ⟨rfl, by go_grown⟩
theorem arab_ofBlk {B : Nat} {w : World} {e sz g : Nat} {xs : List (List Value)} (h : Blk w g e xs.flatten) (hw : ∀ x ∈ xs, x.length = sz) (hB : B ≤ g) (hn : xs.length ≤ maxLen) : Arr B w e sz (.slice (some ⟨g, 0, none⟩) xs.length xs.length) xs := by
  have hl : xs.flatten.length = xs.length * sz := by
    clear h hn
    induction xs with
    | nil => simp
    | cons y ys ih => rw [List.flatten_cons, List.length_append, ih fun x hx => hw x (List.mem_cons_of_mem _ hx), hw y (by simp), List.length_cons, Nat.succ_mul, Nat.add_comm]
  exact ⟨⟨hl, .inr ⟨g, xs.length, xs.flatten.toArray, rfl, hB, h, Nat.le_refl _, hn, by simpa using hl, by rw [← hl]; exact List.take_length⟩⟩, hw⟩
theorem tmod_small (n : Int) (k : Int) (hk : 0 < k) : -k < n.tmod k ∧ n.tmod k < k := by
  refine ⟨?_, Int.tmod_lt_of_pos n hk⟩
  rcases Int.le_total 0 n with h | h
  · have := Int.tmod_nonneg k h; omega
  · have h1 := Int.tmod_lt_of_pos (-n) hk
    rw [Int.neg_tmod] at h1
    omega
theorem sz27 : (Tryz.prog.info? 27).map (fun i => i.size) = some 5 := by kernel_rfl
end Go.Proofs.YtoebgbojpkflnaaGreatDoor
