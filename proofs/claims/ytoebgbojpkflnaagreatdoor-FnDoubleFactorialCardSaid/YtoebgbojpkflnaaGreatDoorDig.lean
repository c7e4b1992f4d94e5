/- The spec's decimal digits of a number. -/
import Derived.Test.YtoebgbojpkflnaaGreatDoorSpecFive
import Derived.Deep.RegionWith
import Derived.Outline
namespace Go.Proofs.YtoebgbojpkflnaaGreatDoor
open Go Go.RowKit
def decF : Nat → Nat → List UInt8
  | 0, _ => []
  | f + 1, n => if n < 10 then [UInt8.ofNat (48 + n)] else decF f (n / 10) ++ [UInt8.ofNat (48 + n % 10)]
theorem decF_dbl : upTo (fun n => decide (decF 7 (dbl n) = decOf (dbl n) ∧ dbl n < 10 ^ 7)) 15 = true := by decide +kernel
theorem decF_len : ∀ f n, (decF f n).length ≤ f
  | 0, _ => Nat.le_refl _
  | f + 1, n => by
    unfold decF
    split
    · simp
    · rw [List.length_append]; have := decF_len f (n / 10); simp; omega
def digT : ByteArray := ⟨#[48, 49, 50, 51, 52, 53, 54, 55, 56, 57, 65, 66, 67, 68, 69, 70, 71, 72, 73, 74, 75, 76, 77, 78, 79, 80, 81, 82, 83, 84, 85, 86, 87, 88, 89, 90]⟩
theorem digT_all : upTo (fun n => decide (digT.extract n (n + 1) = ⟨#[UInt8.ofNat (48 + n)]⟩)) 10 = true := by decide +kernel
theorem digT_at {n : Nat} (h : n < 10) : digT.extract n (n + 1) = ⟨#[UInt8.ofNat (48 + n)]⟩ := of_decide_eq_true (upTo_get digT_all n h)
set_option maxRecDepth 20000 in
set_option maxHeartbeats 1000000 in
theorem digits_small (f n : Nat) (hn10 : n < 10) (w : World) :
    Calls Tryz.prog 96 #[.int .i64 n, .int .i64 10] w fun e w' => e = .returned (.string ⟨(decF (f + 1) n).toArray⟩) ∧ Below w.heap.size w w' := by
  have ht : ((n : Int)).tmod 10 = (n : Int) := (by rw [Int.tmod_eq_emod_of_nonneg (by omega)]; omega)
  go_enter Tryz.func96, Tryz.ntmps96
  go_wp2_with fail
  go_quiet (fail)
  go_wp2_with fail
  go_ret
  refine ⟨?_, below_drewN' (Below.refl _ _) nq⟩
  rw [show decF (f + 1) n = [UInt8.ofNat (48 + n)] by simp [decF, hn10]]
  exact congrArg (fun s => Ending.returned (.string s)) (digT_at hn10)
set_option maxRecDepth 20000 in
set_option maxHeartbeats 1000000 in
theorem digits_any : ∀ (f : Nat) (n : Nat) (_ : n < 10 ^ (f + 1)) (_ : f ≤ 10) (w : World),
    Calls Tryz.prog 96 #[.int .i64 n, .int .i64 10] w fun e w' => e = .returned (.string ⟨(decF (f + 1) n).toArray⟩) ∧ Below w.heap.size w w' := by
  intro f
  induction f with
  | zero => exact fun n hn _ w => digits_small 0 n hn w
  | succ f ih =>
    intro n hn hf w
    by_cases hn10 : n < 10
    · exact digits_small (f + 1) n hn10 w
    · have hp : (10 : Nat) ^ (f + 1 + 1) ≤ 10 ^ 12 := Nat.pow_le_pow_right (by omega) (by omega)
      have hb : n < 1000000000000 := Nat.lt_of_lt_of_le hn hp
      have IH := Lib.hid (ih (n / 10) (by rw [Nat.pow_succ] at hn; omega) (by omega))
      have hl := decF_len (f + 1) (n / 10)
      have ht : ((n : Int)).tmod 10 = ((n % 10 : Nat) : Int) := (by rw [Int.tmod_eq_emod_of_nonneg (by omega)]; rfl)
      have hd : ((n : Int)).tdiv 10 = ((n / 10 : Nat) : Int) := (by rw [Int.tdiv_eq_ediv_of_nonneg (by omega)]; rfl)
      have hr := Nat.mod_lt n (show 0 < 10 by omega)
      have HE : Hid (decF (f + 1 + 1) n = decF (f + 1) (n / 10) ++ [UInt8.ofNat (48 + n % 10)]) := (by show decF (f + 1 + 1) n = _; rw [decF, if_neg hn10])
      obtain ⟨r, hrr⟩ : ∃ r, r = n % 10 := ⟨_, rfl⟩
      obtain ⟨q, hqq⟩ : ∃ q, q = n / 10 := ⟨_, rfl⟩
      rw [← hrr] at ht hr HE
      rw [← hqq] at hd IH HE hl
      have hw : wrap64 (q : Int) = (q : Int) := (by unfold wrap64; omega)
      have HD := Lib.hid (digT_at hr)
      clear hn hp ih hrr hqq
      go_enter Tryz.func96, Tryz.ntmps96
      go_wp2_with fail
      go_quiet (fail)
      go_wp2_with fail
      refine (IH.out _).mono ?_
      rintro e w1 ⟨rfl, hb1⟩
      have HB1 : Hid (Below w.heap.size w w1) := Below.trans (below_drewN' (Below.refl _ _) nq) hb1
      have hD : (⟨#[48, 49, 50, 51, 52, 53, 54, 55, 56, 57, 65, 66, 67, 68, 69, 70, 71, 72, 73, 74, 75, 76, 77, 78, 79, 80, 81, 82, 83, 84, 85, 86, 87, 88, 89, 90]⟩ : ByteArray).extract r (r + 1) = ⟨#[UInt8.ofNat (48 + r)]⟩ := HD.out
      rw [hD]
      obtain ⟨c, hc⟩ : ∃ c, c = UInt8.ofNat (48 + r) := ⟨_, rfl⟩
      rw [← hc]
      have HC := Lib.hid hc
      clear hb1 hD hc
      obtain ⟨L, hL⟩ : ∃ L, L = decF (f + 1) q := ⟨_, rfl⟩
      rw [← hL] at hl ⊢
      have HL := Lib.hid hL
      clear hL
      have hsz : (⟨L.toArray⟩ : ByteArray).size ≤ 100 := (by show L.toArray.size ≤ 100; rw [List.size_toArray]; omega)
      have hsz2 : (⟨#[c]⟩ : ByteArray).size = 1 := rfl
      go_wp2_with fail
      go_ret
      refine ⟨?_, HB1.out⟩
      have e1 : (⟨L.toArray⟩ : ByteArray) ++ ⟨#[c]⟩ = ⟨(decF (f + 1 + 1) n).toArray⟩ := (by rw [HE.out, ← HL.out, ← HC.out]; apply ByteArray.ext; simp [ByteArray.data_append])
      exact congrArg (fun s => Ending.returned (.string s)) e1
set_option maxRecDepth 20000 in
set_option maxHeartbeats 1000000 in
theorem plain_any (n : Nat) (hn : n < 10 ^ 7) (w : World) :
    Calls Tryz.prog 70 #[.agg #[.int .i64 1, .int .i64 n, .int .i64 1, .string ⟨#[]⟩, .slice none 0 0]] w fun e w' => e = .returned (.string ⟨(decF 7 n).toArray⟩) ∧ Below w.heap.size w w' := by
  have hb : n < 10000000 := hn
  have hn0 : decide ((n : Int) < 0) = false := (by rw [decide_eq_false_iff_not]; omega)
  have hd1 : ((n : Int)).tdiv 1 = (n : Int) := (by simp)
  have HN := Lib.hid hn
  have hl := decF_len 7 n
  obtain ⟨L, hL⟩ : ∃ L, L = decF 7 n := ⟨_, rfl⟩
  rw [← hL] at hl ⊢
  have HL := Lib.hid hL
  clear hn hL
  go_enter Tryz.func70, Tryz.ntmps70
  go_wp2_with fail
  refine (digits_any 6 n HN.out (by omega) _).mono ?_
  rintro e w1 ⟨rfl, hb1⟩
  rw [← HL.out]
  have HB1 : Hid (Below w.heap.size w w1) := Below.trans (by go_grown) (hb1.mono (by simp))
  have hr1 := (Blk.new w 27 [.int .i64 1, .int .i64 n, .int .i64 1, .string ⟨#[]⟩, .slice none 0 0]).below hb1 (by simp)
  have d2 := hr1.get 2 rfl
  clear hb1 hr1
  have hsz : (⟨L.toArray⟩ : ByteArray).size ≤ 100 := (by show L.toArray.size ≤ 100; rw [List.size_toArray]; omega)
  have hsz2 : (⟨#[]⟩ : ByteArray).size = 0 := rfl
  go_wp2_with fail
  go_ret
  refine ⟨?_, HB1.out⟩
  have e1 : (⟨#[]⟩ : ByteArray) ++ ⟨L.toArray⟩ = ⟨L.toArray⟩ := (by apply ByteArray.ext; simp [ByteArray.data_append])
  exact congrArg (fun s => Ending.returned (.string s)) e1
end Go.Proofs.YtoebgbojpkflnaaGreatDoor
