/- The laws' combNum and combAny: a number, and a text of decimal digits, turned back into a number. -/
import Derived.Test.YtoebgbojpkflnaaGreatDoorRead
namespace Go.Proofs.YtoebgbojpkflnaaGreatDoor
open Go Go.RowKit
theorem order_hi {n : Int} (h1 : -1000000000000000 ≤ n) (h2 : n ≤ 1000000000000000) : FloatKind.f64.format.order (fx n 0) 4831355200913801216 = some (compare n 1000000000000000) := by
  have e : (4831355200913801216 : Nat) = fx 1000000000000000 0 := by decide +kernel
  rw [e]
  exact order_reads (reads_fx _ _ (by omega) (by omega) (by omega)) (reads_fx _ _ (by omega) (by omega) (by omega))
theorem order_lo {n : Int} (h1 : -1000000000000000 ≤ n) (h2 : n ≤ 1000000000000000) : FloatKind.f64.format.order (fx n 0) 14054727237768577024 = some (compare n (-1000000000000000)) := by
  have e : (14054727237768577024 : Nat) = fx (-1000000000000000) 0 := by decide +kernel
  rw [e]
  exact order_reads (reads_fx _ _ (by omega) (by omega) (by omega)) (reads_fx _ _ (by omega) (by omega) (by omega))
set_option maxRecDepth 20000 in
set_option maxHeartbeats 1000000 in
theorem combNum_any (n : Int) (h1 : -100000000000000 ≤ n) (h2 : n ≤ 100000000000000) (b : Nat) (hb : b = fx n 0) (w : World) :
    Calls Tryz.prog 14 #[(Atom.num b).val] w fun e w' => e = .returned (.tuple #[.int .i64 n, .bool true]) ∧ Below w.heap.size w w' := by
  have ci : ∀ w', (convert 34 3 (.float .f64 b)).run Tryz.prog w' = .ok (.int .i64 n) w' := fun w' => by rw [hb]; exact run_convert_float_int w' 34 3 .f64 .i64 (fx n 0) n (by rw [Tryz.underlying34]; rfl) Tryz.underlying3 (toIntVal_fx (by omega))
  have cv : ∀ w', (convert 3 34 (.int .i64 n)).run Tryz.prog w' = .ok (.float .f64 b) w' := fun w' => by rw [hb]; exact conv_int n w'
  have o1 : FloatKind.f64.format.order b 14054727237768577024 = some .gt := (by rw [hb, order_lo (by omega) (by omega), Int.compare_eq_gt.2 (by omega)])
  have o2 : FloatKind.f64.format.order b 4831355200913801216 = some .lt := (by rw [hb, order_hi (by omega) (by omega), Int.compare_eq_lt.2 (by omega)])
  have o3 : FloatKind.f64.format.order b b = some .eq := (by rw [hb]; exact order_self (by omega) (by omega) (by omega))
  have hv : (Atom.num b).val = .agg #[.int .i64 1, .float .f64 b, .string ⟨#[]⟩, .slice none 0 0] := rfl
  rw [hv]
  clear hv hb
  go_enter Tryz.func14, Tryz.ntmps14
  go_wp2_with fail
  go_ret2
  exact ⟨rfl, by go_grown⟩
theorem dig_all : upTo (fun n => decide ((decOf (dbl n)).length ≤ 9 ∧ 1 ≤ (decOf (dbl n)).length) && (decOf (dbl n)).all (fun b => decide (48 ≤ b.toNat ∧ b.toNat ≤ 57)) && decide (valS ⟨(decOf (dbl n)).toArray⟩ (decOf (dbl n)).length = dbl n)) 15 = true := by decide +kernel
theorem dig_ok {n : Nat} (h : n ≤ 14) : DigS ⟨(decOf (dbl n)).toArray⟩ ∧ valS ⟨(decOf (dbl n)).toArray⟩ (⟨(decOf (dbl n)).toArray⟩ : ByteArray).size = dbl n := by
  have := upTo_get dig_all n (by omega)
  simp only [Bool.and_eq_true, decide_eq_true_eq] at this
  obtain ⟨⟨h1, h2⟩, h3⟩ := this
  have e : (⟨(decOf (dbl n)).toArray⟩ : ByteArray).size = (decOf (dbl n)).length := by show (decOf (dbl n)).toArray.size = _; simp
  exact ⟨⟨by rw [e]; omega, h2⟩, by rw [e]; exact h3⟩
theorem nearly_of {n : Nat} (h : n ≤ 14) : (⟨(decF 7 (dbl n)).toArray⟩ : ByteArray) = ⟨(decOf (dbl n)).toArray⟩ ∧ dbl n < 10 ^ 7 := by
  have := of_decide_eq_true (upTo_get decF_dbl n (by omega))
  exact ⟨by rw [this.1], this.2⟩
set_option maxRecDepth 20000 in
set_option maxHeartbeats 1000000 in
theorem combAny_text (n : Nat) (hn : n ≤ 14) (S : ByteArray) (hS : S = ⟨(decOf (dbl n)).toArray⟩) (w : World) :
    Calls Tryz.prog 29 #[.agg #[.int .i64 2, .float .f64 0, .string S, .slice none 0 0]] w fun e w' => e = .returned (.tuple #[.int .i64 (dbl n), .bool true]) ∧ Below w.heap.size w w' := by
  have HD : Hid (DigS S ∧ valS S S.size = dbl n) := (by show DigS S ∧ valS S S.size = dbl n; rw [hS]; exact dig_ok hn)
  have HP : Hid ((⟨(decF 7 (dbl n)).toArray⟩ : ByteArray) = S ∧ dbl n < 10 ^ 7) := (by show _ ∧ _; rw [hS]; exact nearly_of hn)
  obtain ⟨v, hv⟩ : ∃ v, v = dbl n := ⟨_, rfl⟩
  rw [← hv] at HD HP ⊢
  have hss : (S == S) = true := (by first | exact beq_self_eq_true S | (show decide (S = S) = true; simp) | (cases S; rename_i d; show (d == d) = true; simp))
  clear hS hv
  go_enter Tryz.func29, Tryz.ntmps29
  go_wp2_with fail
  refine (read_any S HD.out.1 _).mono ?_
  rintro e w1 ⟨rfl, hb1⟩
  rw [HD.out.2]
  have HB1 : Hid (Below w.heap.size w w1) := Below.trans (by go_grown) (hb1.mono (by simp; try omega))
  have HA1 : Hid (Blk w1 w.heap.size 37 [.int .i64 2, .float .f64 0, .string S, .slice none 0 0]) := (Blk.new w 37 [.int .i64 2, .float .f64 0, .string S, .slice none 0 0]).below hb1 (by simp)
  clear hb1
  have l1 := HA1.out.lt
  go_wp2_with (first | (refine store_row rfl 27 (.tmp 4) (.tmp 14) rfl w1.heap.size 27 [.int .i64 0, .int .i64 0, .int .i64 0, .string ⟨#[]⟩, .slice none 0 0] [.int .i64 1, .int .i64 v, .int .i64 1, .string ⟨#[]⟩, .slice none 0 0] rfl rfl (Blk.new w1 27 [.int .i64 0, .int .i64 0, .int .i64 0, .string ⟨#[]⟩, .slice none 0 0]) sz27 rfl rfl w1.heap.size (Nat.le_refl _) ?_; intro w2 hr2 hb2 hp2; have HR2 := Lib.hid hr2; have HB2 : Hid (Below w1.heap.size w1 w2) := ((Below.refl _ _).alloc (Nat.le_refl _) _).trans hb2; have HA2 : Hid (Blk w2 w.heap.size 37 [.int .i64 2, .float .f64 0, .string S, .slice none 0 0]) := HA1.out.below HB2.out l1; clear hr2 hb2 hp2))
  have c0 := HR2.out.get 0 rfl
  have c1 := HR2.out.get 1 rfl
  have c2 := HR2.out.get 2 rfl
  have c3 := HR2.out.get 3 rfl
  have c4 := HR2.out.get 4 rfl
  have a2 := HA2.out.get 2 rfl
  have l2 := HA2.out.lt
  have l3 := HR2.out.lt
  go_region_with (go_at_call 70; refine (plain_any v HP.out.2 _).mono ?_; rintro e w3 ⟨rfl, hb3⟩; rw [HP.out.1]; have hb3' : Below w2.heap.size w2 w3 := Below.trans (by go_grown) hb3; have a3 := (HA2.out.below hb3' l2).get 2 rfl; have HR3 := Lib.hid (HR2.out.below hb3' l3); have HB3 := Lib.hid hb3'; clear hb3 hb3')
  all_goals
    have d1 := HR3.out.get 1 rfl
    go_wp2_with fail
    go_ret2
    exact ⟨rfl, HB1.out.trans ((HB2.out.trans (HB3.out.mono HB2.out.size)).mono HB1.out.size)⟩
end Go.Proofs.YtoebgbojpkflnaaGreatDoor
