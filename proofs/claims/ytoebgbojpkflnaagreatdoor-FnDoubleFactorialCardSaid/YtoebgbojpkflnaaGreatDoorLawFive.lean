/- Law 5, FnDoubleFactorial: the walk. Condition: FormatFloat's tables as the row lists them. -/
import Derived.Test.YtoebgbojpkflnaaGreatDoorComb
namespace Go.Proofs.YtoebgbojpkflnaaGreatDoor
open Go Go.RowKit
theorem small_in (n : Int) : ∃ m : Nat, m ≤ 13 ∧ (wrap64 (wrap64 (n.tmod 14 + 13) + 1)).tmod 14 = (m : Int) := by
  have h := tmod_small n 14 (by omega)
  have e : wrap64 (wrap64 (n.tmod 14 + 13) + 1) = n.tmod 14 + 14 := by unfold wrap64; omega
  rw [e]
  have h2 := tmod_small (n.tmod 14 + 14) 14 (by omega)
  have h3 := Int.tmod_nonneg 14 (a := n.tmod 14 + 14) (by omega)
  exact ⟨((n.tmod 14 + 14).tmod 14).toNat, by omega, by omega⟩
theorem dbl_fct : upTo (fun n => decide (dbl (n + 1) * dbl n = fct (n + 1))) 14 = true := by decide +kernel
theorem five_nums (p : Nat) (hp : p ≤ 13) : ∃ x1 x2 x3 : Nat, dbl (p + 1) = x1 ∧ dbl p = x2 ∧ fct (p + 1) = x3 ∧ (x1 : Int) * (x2 : Int) = (x3 : Int) ∧ x3 ≤ 87178291200 :=
  ⟨_, _, _, rfl, rfl, rfl, by rw [← Int.natCast_mul, of_decide_eq_true (upTo_get dbl_fct p (Nat.lt_succ_of_le hp))], (of_decide_eq_true (upTo_get fct_le (p + 1) (Nat.succ_lt_succ (Nat.lt_succ_of_le hp)))).2⟩
set_option maxRecDepth 20000 in
set_option maxHeartbeats 2000000 in
theorem comb13_any (n : Int) (w : World) : Calls Tryz.prog 28 #[.int .i64 n, .int .i64 13] w fun e w' => (∃ m : Nat, m ≤ 13 ∧ e = .returned (.int .i64 m)) ∧ w = w' := by
  obtain ⟨m, hm, he⟩ := small_in n
  go_enter Tryz.func28, Tryz.ntmps28
  go_wp2_with fail
  go_ret
  exact ⟨⟨m, hm, rfl⟩, rfl⟩

set_option maxRecDepth 20000 in
set_option maxHeartbeats 4000000 in
theorem law5_any (n : Int) (w : World) (ht : PowS w) :
    Calls Tryz.prog 5 #[.int .i64 n] w fun e w' => e = .returned (.bool true) ∧ Below w.heap.size w w' := by
  have HT := Lib.hid ht
  clear ht
  go_enter Tryz.func5, Tryz.ntmps5
  go_wp2_with fail
  refine (comb13_any n w).mono ?_
  rintro e w0 ⟨⟨p, hp, rfl⟩, rfl⟩
  have HB0 : Hid (Below w.heap.size w w) := Below.refl _ _
  obtain ⟨m, hm⟩ : ∃ m : Nat, m = p + 1 := ⟨_, rfl⟩
  have hmi : (1 + (p : Int)) = (m : Int) := (by omega)
  have hmp : (m : Int) - 1 = (p : Int) := (by omega)
  have hm14 : m ≤ 14 := (by omega)
  have hm1 : 1 ≤ m := (by omega)
  obtain ⟨S1, hS1⟩ : ∃ S1 : ByteArray, S1 = ⟨(decOf (dbl m)).toArray⟩ := ⟨_, rfl⟩
  obtain ⟨S2, hS2⟩ : ∃ S2 : ByteArray, S2 = ⟨(decOf (dbl p)).toArray⟩ := ⟨_, rfl⟩
  obtain ⟨x1, x2, x3, hx1, hx2, hx3, hprod, hx3l⟩ := five_nums p hp
  rw [← hm] at hx1 hx3
  obtain ⟨b, hb⟩ : ∃ b, b = fx (x3 : Int) 0 := ⟨_, rfl⟩
  have HS1 := Lib.hid hS1
  have HS2 := Lib.hid hS2
  have HBB : Hid (b = fx (fct m : Int) 0) := (by show b = fx (fct m : Int) 0; rw [hb, hx3])
  have C1 := Lib.hid (combAny_text m hm14 S1 hS1)
  have C2 := Lib.hid (combAny_text p (Nat.le_succ_of_le hp) S2 hS2)
  have C4 := Lib.hid (combDouble_any m hm14)
  rw [hx1] at C1 C4
  rw [hx2] at C2
  clear hS1 hS2 hx1 hx2 hx3
  have C3 := Lib.hid (combNum_any (x3 : Int) (by omega) (by omega) b hb)
  have hwr : wrap64 (x3 : Int) = (x3 : Int) := (by unfold wrap64; omega)
  have hwi : IntKind.i64.wrap (x3 : Int) = (x3 : Int) := IntWalk.i64_in _ (by omega)
  clear hb hm
  go_wp2_with fail

  refine (numArgs_any [(m : Int)] (by intro x hx; simp at hx; subst hx; omega) _ w.heap.size 1 (fun k x hk => (Blk.new w 3 [.int .i64 m]).get k (by match k with | 0 => simpa using hk | j + 1 => simp at hk)) (by simp) (by simp)).mono ?_
  rintro e w11 ⟨v1, rfl, ha, hba⟩
  have HA1 : Hid (ArgsAt w11 37 v1 [.num (fx m 0)]) := ⟨ha.base (Nat.zero_le _), by simp, by simp, by intro a h; simp at h; subst h; exact good_fx (by omega)⟩
  have HB11 : Hid (Below w.heap.size w w11) := (HB0.out.alloc HB0.out.size _).trans (hba.mono (by have := HB0.out.size; simp; try omega))
  clear ha hba
  go_wp2_with fail
  refine (dbl_call m (by omega) S1 HS1.out v1 w11 (powS_stable.out _ _ HT.out HB11.out) HA1.out).mono ?_
  rintro e w12 ⟨rfl, hbb⟩
  have HB12 : Hid (Below w.heap.size w w12) := HB11.out.trans (hbb.mono HB11.out.size)
  clear hbb
  go_wp2_with fail
  refine (C1.out w12).mono ?_
  rintro e w13 ⟨rfl, hbc⟩
  have HB13 : Hid (Below w.heap.size w w13) := HB12.out.trans (hbc.mono HB12.out.size)
  clear hbc
  go_wp2_with fail

  refine (numArgs_any [(p : Int)] (by intro x hx; simp at hx; subst hx; omega) _ w13.heap.size 1 (fun k x hk => (Blk.new w13 3 [.int .i64 p]).get k (by match k with | 0 => simpa using hk | j + 1 => simp at hk)) (by simp) (by simp)).mono ?_
  rintro e w21 ⟨v2, rfl, ha, hba⟩
  have HA2 : Hid (ArgsAt w21 37 v2 [.num (fx p 0)]) := ⟨ha.base (Nat.zero_le _), by simp, by simp, by intro a h; simp at h; subst h; exact good_fx (by omega)⟩
  have HB21 : Hid (Below w.heap.size w w21) := (HB13.out.alloc HB13.out.size _).trans (hba.mono (by have := HB13.out.size; simp; try omega))
  clear ha hba
  go_wp2_with fail
  refine (dbl_call p (by omega) S2 HS2.out v2 w21 (powS_stable.out _ _ HT.out HB21.out) HA2.out).mono ?_
  rintro e w22 ⟨rfl, hbb⟩
  have HB22 : Hid (Below w.heap.size w w22) := HB21.out.trans (hbb.mono HB21.out.size)
  clear hbb
  go_wp2_with fail
  refine (C2.out w22).mono ?_
  rintro e w23 ⟨rfl, hbc⟩
  have HB23 : Hid (Below w.heap.size w w23) := HB22.out.trans (hbc.mono HB22.out.size)
  clear hbc
  go_wp2_with fail

  refine (numArgs_any [(m : Int)] (by intro x hx; simp at hx; subst hx; omega) _ w23.heap.size 1 (fun k x hk => (Blk.new w23 3 [.int .i64 m]).get k (by match k with | 0 => simpa using hk | j + 1 => simp at hk)) (by simp) (by simp)).mono ?_
  rintro e w31 ⟨v3, rfl, ha, hba⟩
  have HA3 : Hid (ArgsAt w31 37 v3 [.num (fx m 0)]) := ⟨ha.base (Nat.zero_le _), by simp, by simp, by intro a h; simp at h; subst h; exact good_fx (by omega)⟩
  have HB31 : Hid (Below w.heap.size w w31) := (HB23.out.alloc HB23.out.size _).trans (hba.mono (by have := HB23.out.size; simp; try omega))
  clear ha hba
  go_wp2_with fail
  refine (fct_call m (by omega) b HBB.out v3 w31 HA3.out).mono ?_
  rintro e w32 ⟨rfl, hbb⟩
  have HB32 : Hid (Below w.heap.size w w32) := HB31.out.trans (hbb.mono HB31.out.size)
  clear hbb
  go_wp2_with fail
  refine (C3.out w32).mono ?_
  rintro e w33 ⟨rfl, hbc⟩
  have HB33 : Hid (Below w.heap.size w w33) := HB32.out.trans (hbc.mono HB32.out.size)
  clear hbc
  go_wp2_with fail
  refine (C4.out w33).mono ?_
  rintro e w4 ⟨rfl, hb4⟩
  have HB4 : Hid (Below w.heap.size w w4) := HB33.out.trans (hb4.mono HB33.out.size)
  clear hb4
  have hfd : ∀ w, (Instr.field 27 (.agg #[.int .i64 1, .int .i64 x1, .int .i64 1, .string ⟨#[]⟩, .slice none 0 0]) 1).run Tryz.prog w = .ok (.int .i64 x1) w := fun _ => by kernel_rfl
  go_wp2_with fail
  go_ret
  exact ⟨rfl, HB4.out⟩
theorem law5_all (n : Int) (w : World) (_ : (Lit.int .i64 n).wf = true) (ht : PowTab w ∧ PowTwo w) :
    Calls Tryz.prog 5 #[.int .i64 n] w fun e w' => e = .returned (.bool true) ∧ Below w.heap.size w w' := law5_any n w ht
end Go.Proofs.YtoebgbojpkflnaaGreatDoor
