/- The closure behind FIND and SEARCH, and what prepares its arguments. Conditions: at most 1000 bytes of ASCII, no wildcards, what is looked for is not empty. -/
import Derived.Test.YtoebgbojpkflnaaGreatDoorMatch
import Derived.Test.YtoebgbojpkflnaaGreatDoorRepl
import Derived.Test.YtoebgbojpkflnaaGreatDoorFl
namespace Go.Proofs.YtoebgbojpkflnaaGreatDoor
open Go Go.RowKit

theorem good_fx {n : Int} (h : n.natAbs < 2 ^ 53) : Good (fx n 0) := by
  refine ⟨order_self h (by omega) (by omega), fun h0 => ?_⟩
  rw [show FloatKind.f64.format.order (fx n 0) 0 = some (compare n 0) from order_zero h (by omega) (by omega)] at h0
  have : n = 0 := by
    have := Option.some.inj h0
    simp only [compare, compareOfLessAndEq] at this
    split at this
    · cases this
    · split at this
      · assumption
      · cases this
  subst this
  exact fx_zero 0

def valueStr : ByteArray := ⟨#[35, 86, 65, 76, 85, 69, 33]⟩
/-- What a search answers: the place, or an error. -/
def foundRes (s : ByteArray) (k : Nat) : Res := if k < s.size then .num (fx (k + 1) 0) else .err valueStr valueStr
def Found (s sub : ByteArray) (a : Nat) (w : World) (e : Ending) (w' : World) : Prop := ∃ k : Nat, e = .returned (foundRes s k).fa ∧ First s sub a k ∧ Below w.heap.size w w'
theorem found_yes {s : ByteArray} {k b : Nat} (h : k < s.size) (hb : b = fx (k + 1) 0) : (Atom.num b).fa = (foundRes s k).fa := by unfold foundRes; rw [if_pos h, hb]; rfl
theorem found_no {s : ByteArray} {k : Nat} (h : ¬ k < s.size) : errFa valueStr valueStr = (foundRes s k).fa := by unfold foundRes; rw [if_neg h]; rfl

set_option maxRecDepth 20000 in
set_option maxHeartbeats 1000000 in
theorem find1_plain (s sub : ByteArray) (a : Nat) (hs : s.size ≤ 1000) (hb : sub.size ≤ 1000) (ha : AsciiS s) (hw : NoWild sub) (hal : a ≤ 1000000) (hne : sub.toList.isEmpty = false) (b10 b12 b9 b11 : Nat) (w : World)
    (h10 : Blk w b10 3 [.int .i64 (a + 1)]) (h12 : Blk w b12 4 [.bool false]) (h9 : Blk w b9 9 [.string s]) (h11 : Blk w b11 4 [.bool false]) :
    Calls Tryz.prog 163 #[.string sub, .pointer (some ⟨b10, 0, none⟩), .pointer (some ⟨b12, 0, none⟩), .pointer (some ⟨b9, 0, none⟩), .pointer (some ⟨b11, 0, none⟩)] w (Found s sub a w) := by
  have H11 : Hid (Blk w b11 4 [.bool false]) := h11
  have c10 := h10.get 0 rfl
  have c12 := h12.get 0 rfl
  have c9 := h9.get 0 rfl
  have c11 := h11.get 0 rfl
  have l10 := h10.lt
  have l12 := h12.lt
  have l9 := h9.lt
  have l11 := h11.lt
  clear h10 h12 h9 h11
  go_enter Tryz.func163, Tryz.ntmps163
  go_wp2_with fail
  refine abs_calls (fun w' => Blk w' w.heap.size 84 [.string ⟨#[]⟩, .float .f64 0, .string ⟨#[]⟩, .slice none 0 0, .slice none 0 0, .bool false, .string ⟨#[]⟩, .int .u8 0, .pointer none, .pointer none] ∧ Blk w' b11 4 [.bool false] ∧ Below w.heap.size w w') ⟨Blk.new w 84 [.string ⟨#[]⟩, .float .f64 0, .string ⟨#[]⟩, .slice none 0 0, .slice none 0 0, .bool false, .string ⟨#[]⟩, .int .u8 0, .pointer none, .pointer none], H11.out.alloc _, by go_grown⟩ ?_
  rintro w1 ⟨hr, h11, hb1⟩
  refine (match_any s sub a hs hb ha hw false hal w1).mono ?_
  rintro e w2 ⟨k, rfl, hf, hb2⟩
  have HF : Hid (First s sub a k) := hf
  have hr2 := hr.below hb2 hr.lt
  have HR2 : Hid (Blk w2 w.heap.size 84 [.string ⟨#[]⟩, .float .f64 0, .string ⟨#[]⟩, .slice none 0 0, .slice none 0 0, .bool false, .string ⟨#[]⟩, .int .u8 0, .pointer none, .pointer none]) := hr2
  have d11 := (h11.below hb2 h11.lt).get 0 rfl
  have HB2 : Hid (Below w.heap.size w w2) := hb1.trans (hb2.mono hb1.size)
  have hk : k ≤ 1000 := by have := hf.1; omega
  clear hf hr hr2 h11 hb1 hb2 c10 c12 c9 c11
  obtain ⟨r, hrr⟩ : ∃ r, r = w.heap.size := ⟨_, rfl⟩
  rw [← hrr] at HR2 ⊢
  have HRR : Hid (r = w.heap.size) := hrr
  clear hrr
  by_cases hlt : k < s.size
  · have hd : decide (k < s.size) = true := decide_eq_true hlt
    have HLT : Hid (k < s.size) := hlt
    obtain ⟨b, hbb⟩ : ∃ b, b = fx (k + 1) 0 := ⟨_, rfl⟩
    have cv : ∀ w', (convert 3 34 (.int .i64 (k + 1))).run Tryz.prog w' = .ok (.float .f64 b) w' := fun w' => by rw [hbb, ← floatOfInt_fx]; exact run_convert_int_float w' 3 34 .i64 .f64 (k + 1) (by rw [Tryz.underlying3]; rfl) Tryz.underlying34
    have hgood : Good b := by rw [hbb]; exact good_fx (by omega)
    have HG : Hid (Good b) := hgood
    have HBB : Hid (b = fx (k + 1) 0) := hbb
    clear hlt hbb hgood
    rw [hd]
    go_wp2_with fail
    refine (newNum_any _ _ HG.out).mono ?_
    rintro e w3 ⟨rfl, hb3⟩
    go_wp2_with (refine store_row rfl 84 (.tmp 6) (.tmp 52) rfl r 84 [.string ⟨#[]⟩, .float .f64 0, .string ⟨#[]⟩, .slice none 0 0, .slice none 0 0, .bool false, .string ⟨#[]⟩, .int .u8 0, .pointer none, .pointer none] _ rfl rfl (HR2.out.below hb3 HR2.out.lt) size84 rfl rfl w.heap.size (by rw [HRR.out]; exact Nat.le_refl _) ?_; intro w6 hr6 hb6 _)
    exact bodyPost_ret (ret_row rfl _ _ r 84 _ _ rfl hr6 Tryz.underlying84 rfl size84) rfl ⟨k, congrArg Ending.returned (found_yes HLT.out HBB.out), HF.out, (HB2.out.trans (hb3.mono HB2.out.size)).trans hb6⟩
  · have hd : decide (k < s.size) = false := decide_eq_false hlt
    have HLT : Hid (¬ k < s.size) := hlt
    clear hlt
    rw [hd]
    go_wp2_with fail
    refine (newErr_any _ _ _).mono ?_
    rintro e w3 ⟨rfl, hb3⟩
    go_wp2_with (refine store_row rfl 84 (.tmp 6) (.tmp 32) rfl r 84 [.string ⟨#[]⟩, .float .f64 0, .string ⟨#[]⟩, .slice none 0 0, .slice none 0 0, .bool false, .string ⟨#[]⟩, .int .u8 0, .pointer none, .pointer none] _ rfl rfl (HR2.out.below hb3 HR2.out.lt) size84 rfl rfl w.heap.size (by rw [HRR.out]; exact Nat.le_refl _) ?_; intro w6 hr6 hb6 _)
    exact bodyPost_ret (ret_row rfl _ _ r 84 _ _ rfl hr6 Tryz.underlying84 rfl size84) rfl ⟨k, congrArg Ending.returned (found_no HLT.out), HF.out, (HB2.out.trans (hb3.mono HB2.out.size)).trans hb6⟩

/-- What the preparation hands back: a list with the start. -/
def Prepared (n : Int) (w : World) (e : Ending) (w' : World) : Prop := ∃ g, e = .returned (.agg #[.string ⟨#[]⟩, .float .f64 0, .string ⟨#[]⟩, .slice (some ⟨g, 0, none⟩) 1 1, .slice none 0 0, .bool false, .string ⟨#[]⟩, .int .u8 3, .pointer none, .pointer none]) ∧ Blk w' g 84 [.string ⟨#[]⟩, .float .f64 (fx n 0), .string ⟨#[]⟩, .slice none 0 0, .slice none 0 0, .bool false, .string ⟨#[]⟩, .int .u8 1, .pointer none, .pointer none] ∧ w.heap.size ≤ g ∧ Below w.heap.size w w'

set_option maxRecDepth 20000 in
set_option maxHeartbeats 1000000 in
theorem prep_two (F name : Value) (B L b0 b1 : Nat) (x0 x1 : Value) (w : World) (hil : IsList B w L [b0, b1] [x0, x1]) :
    Calls Tryz.prog 162 #[F, name, .pointer (some ⟨L, 0, none⟩)] w (Prepared 1 w) := by
  have HIL : Hid (IsList B w L [b0, b1] [x0, x1]) := hil
  have cv : ∀ w', (convert 3 34 (.int .i64 1)).run Tryz.prog w' = .ok (.float .f64 (fx 1 0)) w' := fun w' => by rw [← floatOfInt_fx]; exact run_convert_int_float w' 3 34 .i64 .f64 1 (by rw [Tryz.underlying3]; rfl) Tryz.underlying34
  have HG : Hid (Good (fx 1 0)) := good_fx (by decide)
  have HZ : Hid ((FloatKind.f64.format.order (fx 1 0) 0 == some .eq) = false) := by rw [show FloatKind.f64.format.order (fx 1 0) 0 = some (compare 1 0) from order_zero (by decide) (by omega) (by omega)]; rfl
  generalize hbb : fx 1 0 = b at *
  have HBB : Hid (fx 1 0 = b) := hbb
  have g1 : (FloatKind.f64.format.order b b != some .eq) = false := by rw [HG.out.1]; rfl
  have g2 : (FloatKind.f64.format.order b 0 == some .eq) = false := HZ.out
  clear hil hbb
  go_enter Tryz.func162, Tryz.ntmps162
  go_wp2_with (first | (go_at_call 110; refine (len_any _ _ _ _ _ (HIL.out.keep (by go_grown))).mono ?_; rintro e w1 ⟨rfl, rfl⟩) | (go_at_call 117; go_in) | (go_at_call 148; go_in) | (go_at_call 189; go_in))
  go_returns
  exact ⟨w.heap.size + 1 + 1, rfl, by rw [HBB.out]; exact (blk_at (by simp) (Blk.new _ 84 [.string ⟨#[]⟩, .float .f64 b, .string ⟨#[]⟩, .slice none 0 0, .slice none 0 0, .bool false, .string ⟨#[]⟩, .int .u8 1, .pointer none, .pointer none])).alloc _, by omega, by go_grown⟩

set_option maxRecDepth 20000 in
set_option maxHeartbeats 1000000 in
theorem prep_three (n : Int) (n1 : 1 ≤ n) (n2 : n ≤ 1000000) (F name : Value) (B L b0 b1 b2 : Nat) (x0 x1 : Value) (w : World) (hil : IsList B w L [b0, b1, b2] [x0, x1, .iface 84 (Atom.num (fx n 0)).fa]) :
    Calls Tryz.prog 162 #[F, name, .pointer (some ⟨L, 0, none⟩)] w (Prepared n w) := by
  obtain ⟨c2, l2⟩ := hil.at3 2 rfl rfl
  have ci : ∀ w', (convert 34 3 (.float .f64 (fx n 0))).run Tryz.prog w' = .ok (.int .i64 n) w' := fun w' => run_convert_float_int w' 34 3 .f64 .i64 (fx n 0) n (by rw [Tryz.underlying34]; rfl) Tryz.underlying3 (toIntVal_fx (by omega))
  have cv : ∀ w', (convert 3 34 (.int .i64 n)).run Tryz.prog w' = .ok (.float .f64 (fx n 0)) w' := fun w' => by rw [← floatOfInt_fx]; exact run_convert_int_float w' 3 34 .i64 .f64 n (by rw [Tryz.underlying3]; rfl) Tryz.underlying34
  have HG : Hid (Good (fx n 0)) := good_fx (by omega)
  have ho : FloatKind.f64.format.order (fx n 0) 0 = some .gt := by
    rw [show FloatKind.f64.format.order (fx n 0) 0 = some (compare n 0) from order_zero (by omega) (by omega) (by omega)]
    simp only [compare, compareOfLessAndEq]; rw [if_neg (by omega), if_neg (by omega)]
  have HO : Hid (FloatKind.f64.format.order (fx n 0) 0 = some .gt) := ho
  clear ho
  generalize hbb : fx n 0 = b at *
  have HBB : Hid (fx n 0 = b) := hbb
  have HIL : Hid (IsList B w L [b0, b1, b2] [x0, x1, .iface 84 (Atom.num b).fa]) := hil
  unfold Atom.fa at c2
  have m2 := lt_k l2
  have g1 : (FloatKind.f64.format.order b b != some .eq) = false := by rw [HG.out.1]; rfl
  have g2 : (FloatKind.f64.format.order b 0 == some .eq) = false := by rw [HO.out]; rfl
  have g3 : (FloatKind.f64.format.order b 0 == some .lt) = false := by rw [HO.out]; rfl
  clear hil hbb
  go_enter Tryz.func162, Tryz.ntmps162
  go_wp2_with (first | (go_at_call 110; refine (len_any _ _ _ _ _ (HIL.out.keep (by go_grown))).mono ?_; rintro e w1 ⟨rfl, rfl⟩) | (go_at_call 134; refine (back_any _ _ _ _ _ _ _ (HIL.out.keep (by go_grown))).mono ?_; rintro e w1 ⟨rfl, rfl⟩) | (go_at_call 125; go_in) | (go_at_call 117; go_in) | (go_at_call 148; go_in) | (go_at_call 189; go_in))
  go_returns
  exact ⟨w.heap.size + 1 + 1 + 1 + 1 + 1 + 1, rfl, by rw [HBB.out]; exact (blk_at (by simp) (Blk.new _ 84 [.string ⟨#[]⟩, .float .f64 b, .string ⟨#[]⟩, .slice none 0 0, .slice none 0 0, .bool false, .string ⟨#[]⟩, .int .u8 1, .pointer none, .pointer none])).alloc _, by omega, by go_grown⟩
end Go.Proofs.YtoebgbojpkflnaaGreatDoor
