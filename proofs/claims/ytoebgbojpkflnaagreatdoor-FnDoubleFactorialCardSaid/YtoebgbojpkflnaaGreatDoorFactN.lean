/- The method FACT of the whole numbers up to 14. -/
import Derived.Test.YtoebgbojpkflnaaGreatDoorFact
import Derived.Outline
namespace Go.Proofs.YtoebgbojpkflnaaGreatDoor
open Go Go.RowKit
def fct : Nat → Nat
  | 0 => 1
  | n + 1 => (n + 1) * fct n
theorem fct_le : upTo (fun n => decide (1 ≤ fct n ∧ fct n ≤ 87178291200)) 15 = true := by decide +kernel
theorem fx_vs {a b : Nat} (h : a ≤ 4000) (hb : b ≤ 4000) : FloatKind.f64.format.order (fx (a : Int) 0) (fx (b : Int) 0) = some (compare (a : Int) b) := fx_order h hb
set_option maxRecDepth 20000 in
set_option maxHeartbeats 1000000 in
theorem fact_any (n : Nat) (hn : n ≤ 14) (w : World) : Calls Tryz.prog 130 #[.float .f64 (fx (n : Int) 0)] w fun e w' => e = .returned (.float .f64 (fx (fct n : Int) 0)) ∧ w = w' := by
  go_enter Tryz.func130, Tryz.ntmps130
  go_wp2_with fail
  go_loopw [3, 4] (fun u i wr => ∃ k : Nat, 1 ≤ k ∧ k ≤ 14 ∧ (k = 1 ∨ k ≤ n) ∧ u = .float .f64 (fx (fct k : Int) 0) ∧ i = .float .f64 (fx ((k + 1 : Nat) : Int) 0) ∧ wr = w) (fun _ i _ => fx ((16 : Nat) : Int) 0 - floatBit i)
  case atStart => exact ⟨1, Nat.le_refl _, by omega, .inl rfl, by rfl, by rfl, rfl⟩
  case round =>
    obtain ⟨k, hk1, hk2, hkn, rfl, rfl, rfl⟩ := hrel
    have hj1 := fx_vs (show k + 1 ≤ 4000 by omega) (show n ≤ 4000 by omega)
    by_cases hlt : k + 1 ≤ n
    · have HO : FloatKind.f64.format.order (fx ((k + 1 : Nat) : Int) 0) (fx (n : Int) 0) = some .eq ∨ FloatKind.f64.format.order (fx ((k + 1 : Nat) : Int) 0) (fx (n : Int) 0) = some .lt := (by
        rw [hj1]
        rcases Nat.lt_or_ge (k + 1) n with h | h
        · exact .inr (by rw [Int.compare_eq_lt.2 (by omega)])
        · exact .inl (by rw [Int.compare_eq_eq.2 (by omega)]))
      have hle := (of_decide_eq_true (upTo_get fct_le (k + 1) (by omega))).2
      have hlk := (of_decide_eq_true (upTo_get fct_le k (by omega))).2
      have hst : fct k * (k + 1) = fct (k + 1) := Nat.mul_comm _ _
      have HM := Lib.hid (fx_mul (a := fct k) (b := k + 1) (by omega) (by omega) (by omega))
      have HS := Lib.hid (fx_add1 (a := k + 1) (by omega))
      have hmul : ∀ w', (binOp .mul 34 (.float .f64 (fx (fct k : Int) 0)) (.float .f64 (fx ((k + 1 : Nat) : Int) 0))).run Tryz.prog w' = .ok (.float .f64 (fx ((fct k * (k + 1) : Nat) : Int) 0)) w' := fun w' => run_float_arith w' .mul 34 .f64 _ _ _ HM.out
      have hadd : ∀ w', (binOp .add 34 (.float .f64 (fx ((k + 1 : Nat) : Int) 0)) (.float .f64 4607182418800017408)).run Tryz.prog w' = .ok (.float .f64 (fx ((k + 1 + 1 : Nat) : Int) 0)) w' := fun w' => run_float_arith w' .add 34 .f64 _ _ _ HS.out
      rw [hst] at hmul
      have HL1 := Lib.hid (fx_lt (a := k + 1) (b := k + 1 + 1) (by omega) (by omega))
      have HL2 := Lib.hid (fx_lt (a := k + 1) (b := 16) (by omega) (by omega))
      clear hj1 hle hlk hst
      obtain ⟨q, hq⟩ : ∃ q : Nat, q = k + 1 := ⟨_, rfl⟩
      obtain ⟨r, hr⟩ : ∃ r : Nat, r = k + 1 + 1 := ⟨_, rfl⟩
      obtain ⟨fq, hfq⟩ : ∃ fq, fq = fct (k + 1) := ⟨_, rfl⟩
      have HQ := Lib.hid hq
      have HR := Lib.hid hr
      have HFQ := Lib.hid hfq
      rw [← hr, ← hq] at HL1
      rw [← hq] at HL2
      rw [← hr, ← hq] at hadd
      rw [← hfq, ← hq] at hmul
      rw [← hq] at HO ⊢
      clear hq hr hfq HM HS
      rcases HO with ho | ho
      all_goals
        go_wp2_with fail
        refine ⟨⟨k + 1, by omega, by omega, .inr hlt, by rw [HFQ.out], by rw [HR.out], by first | rfl | trivial⟩, ?_⟩
        show _ - fx (r : Int) 0 < _ - fx (q : Int) 0
        have h1 := HL1.out
        have h2 := HL2.out
        omega
    · rw [Int.compare_eq_gt.2 (by omega)] at hj1
      have hn1 : fct k = fct n := (by
        rcases hkn with h | h
        · subst h
          match n, hlt with
          | 0, _ => rfl
          | 1, _ => rfl
          | n + 2, h => omega
        · rw [show k = n by omega])
      have HN := Lib.hid hn1
      clear hn1
      obtain ⟨q, hq⟩ : ∃ q : Nat, q = k + 1 := ⟨_, rfl⟩
      rw [← hq] at hj1 ⊢
      clear hq
      go_wp2_with fail
      go_ret
      exact ⟨by rw [← HN.out]; rfl, rfl⟩

set_option maxRecDepth 20000 in
set_option maxHeartbeats 1000000 in
theorem fct_1 (n : Nat) (hn : n ≤ 14) (F : Value) (B L b0 : Nat) (w : World) (hil : IsList B w L [b0] [.iface 84 (Atom.num (fx n 0)).fa]) :
    Calls Tryz.prog 98 #[F, .pointer (some ⟨L, 0, none⟩)] w (Gives (fun r => r = .num (fx (fct n : Int) 0)) w) := by
  have HIL : Hid (IsList B w L [b0] [.iface 84 (Atom.num (fx n 0)).fa]) := hil
  obtain ⟨c0, l0⟩ := hil.at3 0 rfl rfl
  obtain ⟨x, hx⟩ : ∃ x, x = fx (n : Int) 0 := ⟨_, rfl⟩
  have hfa : (Atom.num x).fa = .agg #[.string ⟨#[]⟩, .float .f64 x, .string ⟨#[]⟩, .slice none 0 0, .slice none 0 0, .bool false, .string ⟨#[]⟩, .int .u8 1, .pointer none, .pointer none] := rfl
  have h0 := fx_vs0 (show n ≤ 4000 by omega)
  rw [← hx] at HIL c0 h0
  have HX : Hid (x = fx (n : Int) 0) := hx
  have HGD : Hid (Good x) := (by show Good x; rw [hx]; exact good_fx (by omega))
  have H0 : FloatKind.f64.format.order x 0 = some .eq ∨ FloatKind.f64.format.order x 0 = some .gt := (by
    rw [h0]
    rcases Nat.eq_zero_or_pos n with h | h
    · exact .inl (by rw [h]; rfl)
    · exact .inr (by rw [Int.compare_eq_gt.2 (by omega)]))
  have hfle := (of_decide_eq_true (upTo_get fct_le n (by omega))).2
  have HGF : Hid (Good (fx (fct n : Int) 0)) := Lib.hid (good_fx (by omega))
  obtain ⟨y, hy⟩ : ∃ y, y = fx (fct n : Int) 0 := ⟨_, rfl⟩
  have HY := Lib.hid hy
  rw [← hy] at HGF
  have m0 := lt_k l0
  clear hil hx h0 hfle hy
  have HFA : Hid _ := hfa
  clear hfa
  rcases H0 with ho | ho
  all_goals
    go_enter Tryz.func98, Tryz.ntmps98
    go_wp2_with (first | (go_at_call 110; refine (len_any _ _ _ _ _ (HIL.out.keep (by go_grown))).mono ?_; rintro e w2 ⟨rfl, rfl⟩) | (go_at_call 112; refine (front_any _ _ _ _ _ _ _ (HIL.out.keep (by go_grown))).mono ?_; rintro e w2 ⟨rfl, rfl⟩))
    refine (toNum_num x HGD.out _).mono ?_
    rintro e w1 ⟨rfl, hb1⟩
    have HR1 : Hid (Blk w1 w.heap.size 84 [.string ⟨#[]⟩, .float .f64 0, .string ⟨#[]⟩, .slice none 0 0, .slice none 0 0, .bool false, .string ⟨#[]⟩, .int .u8 0, .pointer none, .pointer none]) := (Blk.new w 84 [.string ⟨#[]⟩, .float .f64 0, .string ⟨#[]⟩, .slice none 0 0, .slice none 0 0, .bool false, .string ⟨#[]⟩, .int .u8 0, .pointer none, .pointer none]).below hb1 (by simp)
    have HB1 : Hid (Below w.heap.size w w1) := Below.trans (by go_grown) (hb1.mono (by simp))
    clear hb1
    go_wp2_with (first
      | (refine store_row rfl 84 (.tmp 5) (.tmp 16) rfl w1.heap.size 84 [.string ⟨#[]⟩, .float .f64 0, .string ⟨#[]⟩, .slice none 0 0, .slice none 0 0, .bool false, .string ⟨#[]⟩, .int .u8 0, .pointer none, .pointer none] (Res.num x).cells rfl rfl (Blk.new w1 84 [.string ⟨#[]⟩, .float .f64 0, .string ⟨#[]⟩, .slice none 0 0, .slice none 0 0, .bool false, .string ⟨#[]⟩, .int .u8 0, .pointer none, .pointer none]) (by rw [Res.len]; exact size84) (by rw [Res.len]; rfl) (Res.one _) w1.heap.size (Nat.le_refl _) ?_; intro w2 hr2 hb2 hp2; have HR2 : Hid (Blk w2 w.heap.size 84 [.string ⟨#[]⟩, .float .f64 0, .string ⟨#[]⟩, .slice none 0 0, .slice none 0 0, .bool false, .string ⟨#[]⟩, .int .u8 0, .pointer none, .pointer none]) := hp2.blk (HR1.out.alloc _) (by have := HR1.out.lt; omega); have HW2 : Hid (Below w1.heap.size w1 w2) := ((Below.refl _ _).alloc (Nat.le_refl _) _).trans hb2; have d7 := hr2.get 7 rfl; have d1 := hr2.get 1 rfl; clear hr2 hb2 hp2 HR1)
      | (go_at_call 130; rw [HX.out]; refine (fact_any n hn _).mono ?_; rintro e w3 ⟨rfl, rfl⟩; rw [← HX.out, ← HY.out]))
    have HB2 : Hid (Below w.heap.size w w2) := HB1.out.trans (HW2.out.mono HB1.out.size)
    refine (newNum_any _ _ HGF.out).mono ?_
    rintro e w6 ⟨rfl, hb6⟩
    have HB6 : Hid (Below w.heap.size w w6) := HB2.out.trans (hb6.mono HB2.out.size)
    have HR6 : Hid (Blk w6 w.heap.size 84 [.string ⟨#[]⟩, .float .f64 0, .string ⟨#[]⟩, .slice none 0 0, .slice none 0 0, .bool false, .string ⟨#[]⟩, .int .u8 0, .pointer none, .pointer none]) := HR2.out.below hb6 HR2.out.lt
    clear hb6
    go_wp2_with (refine store_res rfl (.tmp 4) (.tmp 28) rfl w.heap.size [.string ⟨#[]⟩, .float .f64 0, .string ⟨#[]⟩, .slice none 0 0, .slice none 0 0, .bool false, .string ⟨#[]⟩, .int .u8 0, .pointer none, .pointer none] (.num y) rfl rfl HR6.out rfl w.heap.size (Nat.le_refl _) ?_; intro w7 hr7 hb7)
    exact bodyPost_ret (ret_res rfl _ _ w.heap.size (.num y) rfl hr7) rfl ⟨_, rfl, by rw [HY.out], HB6.out.trans hb7⟩
end Go.Proofs.YtoebgbojpkflnaaGreatDoor
