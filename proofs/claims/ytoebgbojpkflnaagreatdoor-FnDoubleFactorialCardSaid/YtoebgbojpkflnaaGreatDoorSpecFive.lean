/- The spec's double factorial of the numbers from 1 to 14. -/
import Derived.Test.YtoebgbojpkflnaaGreatDoorFactDoor
import Derived.Test.YtoebgbojpkflnaaGreatDoorLawEight
namespace Go.Proofs.YtoebgbojpkflnaaGreatDoor
open Go Go.RowKit
theorem sz27 : (Tryz.prog.info? 27).map (fun i => i.size) = some 5 := by kernel_rfl
set_option maxRecDepth 20000 in
set_option maxHeartbeats 1000000 in
theorem prod_any (n : Nat) (hn : n ≤ 14) (w : World) :
    Calls Tryz.prog 73 #[.string ⟨#[70, 65, 67, 84, 68, 79, 85, 66, 76, 69]⟩, .int .i64 n] w fun e w' => e = .returned (.agg #[.int .i64 1, .int .i64 (dbl n), .int .i64 1, .string ⟨#[]⟩, .slice none 0 0]) ∧ Below w.heap.size w w' := by
  have hst : ((⟨#[70, 65, 67, 84, 68, 79, 85, 66, 76, 69]⟩ : ByteArray) == ⟨#[70, 65, 67, 84, 68, 79, 85, 66, 76, 69]⟩) = true := (by decide)
  have hn0 : decide ((n : Int) < 0) = false := (by rw [decide_eq_false_iff_not]; omega)
  go_enter Tryz.func73, Tryz.ntmps73
  go_wp2_with fail
  refine abs_wp (fun w' => Blk w' w.heap.size 27 [.int .i64 0, .int .i64 0, .int .i64 0, .string ⟨#[]⟩, .slice none 0 0] ∧ Below w.heap.size w w') ⟨Blk.new w 27 [.int .i64 0, .int .i64 0, .int .i64 0, .string ⟨#[]⟩, .slice none 0 0], (Below.refl _ _).alloc (Nat.le_refl _) _⟩ ?_
  rintro w1 ⟨hg1, hb1⟩
  have HG1 := Lib.hid hg1
  have HB1 := Lib.hid hb1
  clear hg1 hb1
  go_loopw [6, 7] (fun u i wr => ∃ v j : Nat, j ≤ n ∧ v * dbl j = dbl n ∧ u = .int .i64 v ∧ i = .int .i64 j ∧ wr = w1) (fun _ i _ => (intOf i).toNat)
  case atStart => exact ⟨1, n, Nat.le_refl _, Nat.one_mul _, by rfl, rfl, rfl⟩
  case round =>
    obtain ⟨v, j, hj, hv, rfl, rfl, rfl⟩ := hrel
    have HV := Lib.hid hv
    clear hv
    by_cases hlt : 1 < j
    · have hle := (of_decide_eq_true (upTo_get dbl_le n (by omega))).2
      have hvj : v * j * dbl (j - 2) = dbl n := (by rw [Nat.mul_assoc, ← dbl_step hlt]; exact HV.out)
      have hp1 := (of_decide_eq_true (upTo_get dbl_le (j - 2) (by omega))).1
      have hvle : v * j ≤ 645120 := Nat.le_trans (by have := Nat.le_mul_of_pos_right (v * j) hp1; omega) hle
      have HVJ := Lib.hid hvj
      have hm : IntKind.i64.wrap ((v : Int) * (j : Int)) = ((v * j : Nat) : Int) := (by rw [← Int.natCast_mul]; exact IntWalk.i64_in _ (by omega))
      have hm2 : wrap64 ((v : Int) * (j : Int)) = ((v * j : Nat) : Int) := (by rw [← Int.natCast_mul]; unfold wrap64; omega)
      obtain ⟨q, hq⟩ : ∃ q, q = v * j := ⟨_, rfl⟩
      have HQ := Lib.hid hq
      rw [← hq] at hm hm2 hvle
      clear hle hvj hp1 hq
      go_wp2_with fail
      refine ⟨⟨q, j - 2, by omega, by rw [HQ.out]; exact HVJ.out, by first | rfl | trivial, by first | rfl | (congr 1; omega), by first | rfl | trivial⟩, by simp [intOf]; omega⟩
    · have hle : j ≤ 1 := (by omega)
      have hn1 : dbl j = 1 := (by match j, hle with | 0, _ => rfl | 1, _ => rfl)
      have hvn : v = dbl n := (by have := HV.out; rw [hn1, Nat.mul_one] at this; exact this)
      have HVN := Lib.hid hvn
      have hle := (of_decide_eq_true (upTo_get dbl_le n (by omega))).2
      have HLE := Lib.hid hle
      clear hn1 hvn hle
      go_wp2_with fail
      refine (int_spec v (by omega) (by have := HLE.out; have := HVN.out; omega) _).mono ?_
      rintro e w4 ⟨rfl, hb4⟩
      have HB4 : Hid (Below w.heap.size w w4) := HB1.out.trans (hb4.mono HB1.out.size)
      have HG4 : Hid (Blk w4 w.heap.size 27 [.int .i64 0, .int .i64 0, .int .i64 0, .string ⟨#[]⟩, .slice none 0 0]) := HG1.out.below hb4 HG1.out.lt
      clear hb4
      go_wp2_with (refine store_row rfl 27 (.tmp 4) (.tmp 34) rfl w.heap.size 27 [.int .i64 0, .int .i64 0, .int .i64 0, .string ⟨#[]⟩, .slice none 0 0] [.int .i64 1, .int .i64 v, .int .i64 1, .string ⟨#[]⟩, .slice none 0 0] rfl rfl HG4.out sz27 rfl rfl w.heap.size (Nat.le_refl _) ?_; intro w6 hr6 hb6 _)
      refine bodyPost_ret (ret_row rfl _ _ w.heap.size 27 [.int .i64 1, .int .i64 v, .int .i64 1, .string ⟨#[]⟩, .slice none 0 0] _ rfl hr6 Tryz.underlying27 rfl sz27) rfl ⟨by rw [HVN.out], HB4.out.trans hb6⟩
set_option maxRecDepth 20000 in
set_option maxHeartbeats 1000000 in
theorem combDouble_any (n : Nat) (hn : n ≤ 14) (w : World) :
    Calls Tryz.prog 33 #[.int .i64 n] w fun e w' => e = .returned (.agg #[.int .i64 1, .int .i64 (dbl n), .int .i64 1, .string ⟨#[]⟩, .slice none 0 0]) ∧ Below w.heap.size w w' := by
  go_enter Tryz.func33, Tryz.ntmps33
  go_wp2_with fail
  refine (prod_any n hn _).mono ?_
  rintro e w4 ⟨rfl, hb4⟩
  have HG4 : Hid (Blk w4 w.heap.size 27 [.int .i64 0, .int .i64 0, .int .i64 0, .string ⟨#[]⟩, .slice none 0 0]) := (Blk.new w 27 [.int .i64 0, .int .i64 0, .int .i64 0, .string ⟨#[]⟩, .slice none 0 0]).below hb4 (by simp)
  have HB4 : Hid (Below w.heap.size w w4) := Below.trans (by go_grown) (hb4.mono (by simp))
  clear hb4
  go_wp2_with (refine store_row rfl 27 (.tmp 2) (.tmp 4) rfl w.heap.size 27 [.int .i64 0, .int .i64 0, .int .i64 0, .string ⟨#[]⟩, .slice none 0 0] [.int .i64 1, .int .i64 (dbl n), .int .i64 1, .string ⟨#[]⟩, .slice none 0 0] rfl rfl HG4.out sz27 rfl rfl w.heap.size (Nat.le_refl _) ?_; intro w6 hr6 hb6 _)
  refine bodyPost_ret (ret_row rfl _ _ w.heap.size 27 [.int .i64 1, .int .i64 (dbl n), .int .i64 1, .string ⟨#[]⟩, .slice none 0 0] _ rfl hr6 Tryz.underlying27 rfl sz27) rfl ⟨rfl, HB4.out.trans hb6⟩
end Go.Proofs.YtoebgbojpkflnaaGreatDoor
