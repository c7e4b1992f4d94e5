/- The methods FACTDOUBLE and FACT of the whole numbers up to 14. Condition for FACTDOUBLE: FormatFloat's tables as the row lists them. -/
import Derived.Test.YtoebgbojpkflnaaGreatDoorFact
import Derived.Outline
namespace Go.Proofs.YtoebgbojpkflnaaGreatDoor
open Go Go.RowKit
def PowS (w : World) : Prop := PowTab w ∧ PowTwo w
theorem powS_stable : Stable PowS := ⟨fun _ _ h hb => ⟨h.1.below hb, h.2.below hb⟩⟩
theorem upS_dec : upTo (fun n => decide (upS ⟨(decOf (dbl n)).toArray⟩ = ⟨(decOf (dbl n)).toArray⟩) && decide ((decOf (dbl n)).length ≤ 10) && (decOf (dbl n)).all (fun b => decide (b < 128))) 15 = true := by decide +kernel
theorem asciiS_of {l : List UInt8} (h : l.all (fun b => decide (b < 128)) = true) : AsciiS ⟨l.toArray⟩ := by
  intro i hi
  have hi' : i < l.length := by simpa [ByteArray.size] using hi
  have := of_decide_eq_true (List.all_eq_true.1 h l[i] (List.getElem_mem hi'))
  have e : (⟨l.toArray⟩ : ByteArray)[i]'hi = l[i] := rfl
  rw [e]
  exact UInt8.lt_iff_toNat_lt.1 this

set_option maxRecDepth 20000 in
set_option maxHeartbeats 1000000 in
theorem dbl_1 (n : Nat) (hn : n ≤ 14) (F : Value) (B L b0 : Nat) (w : World) (ht : PowS w) (hil : IsList B w L [b0] [.iface 84 (Atom.num (fx n 0)).fa]) :
    Calls Tryz.prog 97 #[F, .pointer (some ⟨L, 0, none⟩)] w (Gives (fun r => r = .text ⟨(decOf (dbl n)).toArray⟩) w) := by
  have HIL : Hid (IsList B w L [b0] [.iface 84 (Atom.num (fx n 0)).fa]) := hil
  obtain ⟨c0, l0⟩ := hil.at3 0 rfl rfl
  have HT : Hid (PowS w) := ht
  obtain ⟨x, hx⟩ : ∃ x, x = fx (n : Int) 0 := ⟨_, rfl⟩
  have hfa : (Atom.num x).fa = .agg #[.string ⟨#[]⟩, .float .f64 x, .string ⟨#[]⟩, .slice none 0 0, .slice none 0 0, .bool false, .string ⟨#[]⟩, .int .u8 1, .pointer none, .pointer none] := rfl
  have h0 := fx_vs0 (show n ≤ 4000 by omega)
  rw [← hx] at HIL c0 h0
  have HX : Hid (x = fx (n : Int) 0) := hx
  have HGD : Hid (Good x) := (by show Good x; rw [hx]; exact good_fx (by omega))
  have HTR : Hid (truncOf x = some x) := (by show truncOf x = some x; rw [hx]; exact trunc_fx (by omega))
  have H0 : FloatKind.f64.format.order x 0 = some .eq ∨ FloatKind.f64.format.order x 0 = some .gt := (by
    rw [h0]
    rcases Nat.eq_zero_or_pos n with h | h
    · exact .inl (by rw [h]; rfl)
    · exact .inr (by rw [Int.compare_eq_gt.2 (by omega)]))
  have m0 := lt_k l0
  clear hil ht hx h0
  have HFA : Hid _ := hfa
  clear hfa
  rcases H0 with ho | ho
  all_goals
    go_enter Tryz.func97, Tryz.ntmps97
    go_wp2_with (first | (go_at_call 110; refine (len_any _ _ _ _ _ (HIL.out.keep (by go_grown))).mono ?_; rintro e w2 ⟨rfl, rfl⟩) | (go_at_call 112; refine (front_any _ _ _ _ _ _ _ (HIL.out.keep (by go_grown))).mono ?_; rintro e w2 ⟨rfl, rfl⟩))
    refine (toNum_num x HGD.out _).mono ?_
    rintro e w1 ⟨rfl, hb1⟩
    have HR1 : Hid (Blk w1 w.heap.size 84 [.string ⟨#[]⟩, .float .f64 0, .string ⟨#[]⟩, .slice none 0 0, .slice none 0 0, .bool false, .string ⟨#[]⟩, .int .u8 0, .pointer none, .pointer none]) := (Blk.new w 84 [.string ⟨#[]⟩, .float .f64 0, .string ⟨#[]⟩, .slice none 0 0, .slice none 0 0, .bool false, .string ⟨#[]⟩, .int .u8 0, .pointer none, .pointer none]).below hb1 (by simp)
    have HB1 : Hid (Below w.heap.size w w1) := Below.trans (by go_grown) (hb1.mono (by simp))
    clear hb1
    go_wp2_with (first
      | (refine store_row rfl 84 (.tmp 6) (.tmp 18) rfl w1.heap.size 84 [.string ⟨#[]⟩, .float .f64 0, .string ⟨#[]⟩, .slice none 0 0, .slice none 0 0, .bool false, .string ⟨#[]⟩, .int .u8 0, .pointer none, .pointer none] (Res.num x).cells rfl rfl (Blk.new w1 84 [.string ⟨#[]⟩, .float .f64 0, .string ⟨#[]⟩, .slice none 0 0, .slice none 0 0, .bool false, .string ⟨#[]⟩, .int .u8 0, .pointer none, .pointer none]) (by rw [Res.len]; exact size84) (by rw [Res.len]; rfl) (Res.one _) w1.heap.size (Nat.le_refl _) ?_; intro w2 hr2 hb2 hp2; have HR2 : Hid (Blk w2 w.heap.size 84 [.string ⟨#[]⟩, .float .f64 0, .string ⟨#[]⟩, .slice none 0 0, .slice none 0 0, .bool false, .string ⟨#[]⟩, .int .u8 0, .pointer none, .pointer none]) := hp2.blk (HR1.out.alloc _) (by have := HR1.out.lt; omega); have HW2 : Hid (Below w1.heap.size w1 w2) := ((Below.refl _ _).alloc (Nat.le_refl _) _).trans hb2; have d7 := hr2.get 7 rfl; have d1 := hr2.get 1 rfl; clear hr2 hb2 hp2 HR1)
      | (go_at_call 126; refine (trunc_any HTR.out _).mono ?_; rintro e w3 ⟨rfl, rfl⟩))
    rw [HX.out]
    have HB2 : Hid (Below w.heap.size w w2) := HB1.out.trans (HW2.out.mono HB1.out.size)
    clear d7 d1 ho
    go_loopw [5, 7] (fun u i wr => ∃ v j : Nat, j ≤ n ∧ v * dbl j = dbl n ∧ u = .float .f64 (fx (v : Int) 0) ∧ i = .float .f64 (fx (j : Int) 0) ∧ wr = w2) (fun _ i _ => floatBit i)
    case atStart => exact ⟨1, n, Nat.le_refl _, Nat.one_mul _, by rfl, rfl, rfl⟩
    case round =>
      obtain ⟨v, j, hj, hv, rfl, rfl, rfl⟩ := hrel
      have HV := Lib.hid hv
      have hj1 := fx_vs1 (show j ≤ 4000 by omega)
      clear hv
      by_cases hlt : 1 < j
      · rw [Int.compare_eq_gt.2 (by omega)] at hj1
        have hle := (of_decide_eq_true (upTo_get dbl_le n (by omega))).2
        have hvj : v * j * dbl (j - 2) = dbl n := (by rw [Nat.mul_assoc, ← dbl_step hlt]; exact HV.out)
        have hp1 := (of_decide_eq_true (upTo_get dbl_le (j - 2) (by omega))).1
        have hvle : v * j ≤ 645120 := Nat.le_trans (by have := Nat.le_mul_of_pos_right (v * j) hp1; omega) hle
        have hv1 : v ≤ 645120 := Nat.le_trans (Nat.le_mul_of_pos_right v (by omega)) hvle
        have HM := Lib.hid (fx_mul (a := v) (b := j) (by omega) (by omega) (by omega))
        have HS := Lib.hid (fx_sub2 (a := j) (by omega) (by omega))
        have hmul : ∀ w', (binOp .mul 34 (.float .f64 (fx (v : Int) 0)) (.float .f64 (fx (j : Int) 0))).run Tryz.prog w' = .ok (.float .f64 (fx ((v * j : Nat) : Int) 0)) w' := fun w' => run_float_arith w' .mul 34 .f64 _ _ _ HM.out
        have hsub : ∀ w', (binOp .sub 34 (.float .f64 (fx (j : Int) 0)) (.float .f64 4611686018427387904)).run Tryz.prog w' = .ok (.float .f64 (fx ((j - 2 : Nat) : Int) 0)) w' := fun w' => run_float_arith w' .sub 34 .f64 _ _ _ HS.out
        have HVJ := Lib.hid hvj
        clear hle hvj hp1 hvle hv1
        go_wp2_with fail
        refine ⟨⟨v * j, j - 2, by omega, HVJ.out, by first | rfl | trivial, by first | rfl | trivial, by first | rfl | trivial⟩, fx_lt (by omega) (by omega)⟩
      · have hle : j ≤ 1 := (by omega)
        have hn1 : dbl j = 1 := (by match j, hle with | 0, _ => rfl | 1, _ => rfl)
        have hvn : v = dbl n := (by have := HV.out; rw [hn1, Nat.mul_one] at this; exact this)
        have HVN := Lib.hid hvn
        have HJ : FloatKind.f64.format.order (fx (j : Int) 0) 4607182418800017408 = some .eq ∨ FloatKind.f64.format.order (fx (j : Int) 0) 4607182418800017408 = some .lt := (by
          rw [hj1]
          rcases Nat.lt_or_ge j 1 with h | h
          · exact .inr (by rw [Int.compare_eq_lt.2 (by omega)])
          · exact .inl (by rw [Int.compare_eq_eq.2 (by omega)]))
        clear hj1 hn1 hvn hle
        have HUD := upTo_get upS_dec n (by omega)
        simp only [Bool.and_eq_true, decide_eq_true_eq] at HUD
        obtain ⟨⟨hu1, hu2⟩, hu3⟩ := HUD
        have HU1 := Lib.hid hu1
        have HU2 := Lib.hid hu2
        have HU3 := Lib.hid hu3
        clear hu1 hu2 hu3
        obtain ⟨S, hS⟩ : ∃ S : ByteArray, S = ⟨(decOf (dbl n)).toArray⟩ := ⟨_, rfl⟩
        have HSS := Lib.hid hS
        clear hS
        rcases HJ with hj1 | hj1
        all_goals
          go_wp2_with fail
          rw [HVN.out]
          refine (fmt_any (dbl_ok hn) _ (HT.out.1.below HB2.out) (HT.out.2.below HB2.out)).mono ?_
          rintro e w4 ⟨rfl, hb4⟩
          rw [← HSS.out]
          have HB4 : Hid (Below w.heap.size w w4) := HB2.out.trans (hb4.mono HB2.out.size)
          have HR4 : Hid (Blk w4 w.heap.size 84 [.string ⟨#[]⟩, .float .f64 0, .string ⟨#[]⟩, .slice none 0 0, .slice none 0 0, .bool false, .string ⟨#[]⟩, .int .u8 0, .pointer none, .pointer none]) := HR2.out.below hb4 HR2.out.lt
          clear hb4
          go_wp2_with fail
          refine (upper_any S (by rw [HSS.out]; show (decOf (dbl n)).toArray.size ≤ 1000; rw [List.size_toArray]; have := HU2.out; omega) (by rw [HSS.out]; exact asciiS_of HU3.out) _).mono ?_
          rintro e w5 ⟨rfl, hb5⟩
          have HUS : Hid (upS S = S) := (by show upS S = S; rw [HSS.out]; exact HU1.out)
          rw [HUS.out]
          have HB5 : Hid (Below w.heap.size w w5) := HB4.out.trans (hb5.mono HB4.out.size)
          have HR5 : Hid (Blk w5 w.heap.size 84 [.string ⟨#[]⟩, .float .f64 0, .string ⟨#[]⟩, .slice none 0 0, .slice none 0 0, .bool false, .string ⟨#[]⟩, .int .u8 0, .pointer none, .pointer none]) := HR4.out.below hb5 HR4.out.lt
          clear hb5
          go_wp2_with fail
          refine (newString_any _ _).mono ?_
          rintro e w6 ⟨rfl, hb6⟩
          have HB6 : Hid (Below w.heap.size w w6) := HB5.out.trans (hb6.mono HB5.out.size)
          have HR6 : Hid (Blk w6 w.heap.size 84 [.string ⟨#[]⟩, .float .f64 0, .string ⟨#[]⟩, .slice none 0 0, .slice none 0 0, .bool false, .string ⟨#[]⟩, .int .u8 0, .pointer none, .pointer none]) := HR5.out.below hb6 HR5.out.lt
          clear hb6
          go_wp2_with (refine store_res rfl (.tmp 4) (.tmp 40) rfl w.heap.size [.string ⟨#[]⟩, .float .f64 0, .string ⟨#[]⟩, .slice none 0 0, .slice none 0 0, .bool false, .string ⟨#[]⟩, .int .u8 0, .pointer none, .pointer none] (.text S) rfl rfl HR6.out rfl w.heap.size (Nat.le_refl _) ?_; intro w7 hr7 hb7)
          exact bodyPost_ret (ret_res rfl _ _ w.heap.size (.text S) rfl hr7) rfl ⟨_, rfl, by rw [HSS.out], HB6.out.trans hb7⟩
end Go.Proofs.YtoebgbojpkflnaaGreatDoor
