/- math.Trunc of a whole number is that number. Conditions: from 0 to 4000. -/
import Derived.Test.YtoebgbojpkflnaaGreatDoorDoor
import Derived.Test.YtoebgbojpkflnaaGreatDoorNumeral
namespace Go.Proofs.YtoebgbojpkflnaaGreatDoor
open Go Go.RowKit
/-- What the model makes of math.archTrunc at a float's bits: none at what is no number. -/
def truncOfD : Ieee.Datum → Option Nat
  | .nan .. => none
  | d => some (FloatKind.f64.encode (d.integral .zero))
def truncOf (x : Nat) : Option Nat := truncOfD (FloatKind.f64.decode x)
theorem trunc_all : upTo (fun n => truncOf (fx n 0) == some (fx n 0)) 4001 = true := by decide +kernel
theorem trunc_fx {n : Nat} (h : n ≤ 4000) : truncOf (fx n 0) = some (fx n 0) := by simpa using upTo_get trunc_all n (by omega)
theorem run_toIntegral {x y : Nat} (h : truncOf x = some y) (w : World) : (Extern.MathFloor.toIntegral "math.archTrunc" .zero #[.float .f64 x]).run Tryz.prog w = .ok (.float .f64 y) w := by
  have key : ∀ d, FloatKind.f64.decode x = d → ∀ z, truncOfD d = some z → Extern.MathFloor.toIntegral "math.archTrunc" .zero #[.float .f64 x] = pure (.float .f64 z) := by
    intro d hd z hz
    cases d with
    | nan s t => cases hz
    | _ =>
      injection hz with hz
      subst hz
      delta Extern.MathFloor.toIntegral
      change (match FloatKind.f64.decode x with | _ => _) = _
      rw [hd]
      try rfl
  rw [key _ rfl y h]
  rfl
theorem run_archTrunc {x y : Nat} (h : truncOf x = some y) (w : World) : (callFunc 153 #[.float .f64 x]).run Tryz.prog w = .ok (.value (.float .f64 y)) w := by
  rw [run_callFunc_extern Tryz.func153 (by kernel_rfl) (by kernel_rfl) (by kernel_rfl) (e := Extern.MathFloor.toIntegral "math.archTrunc" .zero) (by kernel_rfl), run_toIntegral h]
  rfl
set_option maxRecDepth 20000 in
set_option maxHeartbeats 1000000 in
theorem trunc_any {x y : Nat} (h : truncOf x = some y) (w : World) : Calls Tryz.prog 126 #[.float .f64 x] w fun e w' => e = .returned (.float .f64 y) ∧ w = w' := by
  have hr : ∀ w, (callFunc 153 #[.float .f64 x]).run Tryz.prog w = .ok (.value (.float .f64 y)) w := run_archTrunc h
  clear h
  go_enter Tryz.func126, Tryz.ntmps126
  go_wp2
  go_ret
  exact ⟨rfl, rfl⟩
set_option maxRecDepth 20000 in
set_option maxHeartbeats 1000000 in
theorem toNum_num (b : Nat) (hb : Good b) (w : World) : Calls Tryz.prog 125 #[(Atom.num b).fa] w fun e w' => e = .returned (Res.num b).fa ∧ Below w.heap.size w w' := by
  have HB : Hid (Good b) := hb
  clear hb
  have he : (Atom.num b).fa = .agg #[.string ⟨#[]⟩, .float .f64 b, .string ⟨#[]⟩, .slice none 0 0, .slice none 0 0, .bool false, .string ⟨#[]⟩, .int .u8 1, .pointer none, .pointer none] := rfl
  rw [he]
  clear he
  go_enter Tryz.func125, Tryz.ntmps125
  go_wp2_with fail
  refine (newNum_any b _ HB.out).mono ?_
  rintro e w1 ⟨rfl, hb1⟩
  have HR : Hid (Blk w1 (w.heap.size + 1) 84 [.string ⟨#[]⟩, .float .f64 0, .string ⟨#[]⟩, .slice none 0 0, .slice none 0 0, .bool false, .string ⟨#[]⟩, .int .u8 0, .pointer none, .pointer none]) := (blk_at0 (by simp) (Blk.new _ 84 [.string ⟨#[]⟩, .float .f64 0, .string ⟨#[]⟩, .slice none 0 0, .slice none 0 0, .bool false, .string ⟨#[]⟩, .int .u8 0, .pointer none, .pointer none])).below hb1 (by simp)
  have HB1 : Hid (Below w.heap.size w w1) := Below.trans (by go_grown) (hb1.mono (by simp; omega))
  clear hb1
  go_wp2_with (refine store_res rfl (.tmp 2) (.tmp 37) rfl (w.heap.size + 1) [.string ⟨#[]⟩, .float .f64 0, .string ⟨#[]⟩, .slice none 0 0, .slice none 0 0, .bool false, .string ⟨#[]⟩, .int .u8 0, .pointer none, .pointer none] (.num b) rfl rfl HR.out rfl w.heap.size (Nat.le_succ _) ?_; intro w6 hr6 hb6)
  exact bodyPost_ret (ret_res rfl _ _ (w.heap.size + 1) (.num b) rfl hr6) rfl ⟨rfl, HB1.out.trans hb6⟩
end Go.Proofs.YtoebgbojpkflnaaGreatDoor
